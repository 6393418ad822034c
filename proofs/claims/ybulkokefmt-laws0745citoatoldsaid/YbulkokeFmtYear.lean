/-
  OWN WORK (seat b0745aF). The walk of the law's own model.
-/
import Derived.Test.YbulkokeFmtWalk
namespace Go.Proofs.YbulkokeFmt
open Go.RowKit

/-- What the model hands back. -/
def tup : Option Nat → Value
  | some v => .tuple #[.int .i64 (v : Int), .bool true]
  | none => .tuple #[.int .i64 0, .bool false]

theorem drop_cons (s : ByteArray) (k : Nat) (h : k < s.size) : s.data.toList.drop k = s[k] :: s.data.toList.drop (k + 1) := by
  rw [List.drop_eq_getElem_cons (by simpa using h)]; rfl
theorem digs_yes {s : ByteArray} {k v : Nat} (h : k < s.size) (hd : 48 ≤ s[k].toNat ∧ s[k].toNat ≤ 57) :
    digs v (s.data.toList.drop k) = digs (if v ≤ 10001 then v * 10 + (s[k].toNat - 48) else v) (s.data.toList.drop (k + 1)) := by
  rw [drop_cons s k h]; simp only [digs]; rw [if_pos hd]
theorem digs_no {s : ByteArray} {k v : Nat} (h : k < s.size) (hd : ¬ (48 ≤ s[k].toNat ∧ s[k].toNat ≤ 57)) : digs v (s.data.toList.drop k) = none := by
  rw [drop_cons s k h]; simp only [digs]; rw [if_neg hd]
theorem digs_end {s : ByteArray} {k v : Nat} (h : ¬ k < s.size) : digs v (s.data.toList.drop k) = some v := by
  rw [List.drop_eq_nil_of_le (by simpa using h)]; rfl
theorem fin_big {neg : Bool} {v : Nat} (h : 10001 < v) : fin neg (some v) = none := by simp only [fin]; rw [if_pos h]
theorem fin_neg {v : Nat} (h : ¬ v = 0) : fin true (some v) = none := by simp [fin, h]
theorem fin_plain {v : Nat} (h : ¬ 10001 < v) : fin false (some v) = some v := by simp only [fin]; rw [if_neg h, if_neg (by simp)]

theorem year_sign {s : ByteArray} (h : 0 < s.size) (hs : s[0].toNat = 43 ∨ s[0].toNat = 45) (h1 : s.size ≠ 1) : year s.data.toList = fin (decide (s[0].toNat = 45)) (digs 0 (s.data.toList.drop 1)) := by
  have e := drop_cons s 0 h
  rw [List.drop_zero] at e
  rw [e]
  simp only [year]
  rw [if_pos hs, if_neg]
  · rfl
  · intro hn
    have := congrArg List.length hn
    simp at this
    omega
theorem year_lone {s : ByteArray} (h : 0 < s.size) (hs : s[0].toNat = 43 ∨ s[0].toNat = 45) (h1 : s.size = 1) : year s.data.toList = none := by
  have e := drop_cons s 0 h
  rw [List.drop_zero] at e
  rw [e]
  simp only [year]
  rw [if_pos hs, if_pos]
  exact List.drop_eq_nil_of_le (by simp; omega)
theorem year_bare {s : ByteArray} (h : 0 < s.size) (hs : ¬ (s[0].toNat = 43 ∨ s[0].toNat = 45)) : year s.data.toList = fin false (digs 0 (s.data.toList.drop 0)) := by
  have e := drop_cons s 0 h
  rw [List.drop_zero] at e
  rw [List.drop_zero, e]
  simp only [year]
  rw [if_neg hs]

set_option maxHeartbeats 2000000 in
theorem model_any (s : ByteArray) (w : World) (hs : s.size ≤ 1024) : Calls Ybaf.prog 6 #[.string s] w fun e w' => e = .returned (tup (year s.data.toList)) ∧ w' = w := by
  by_cases hz : 0 < s.size
  · by_cases h43 : s[0].toNat = 43
    · have t43 : ((s[0].toNat : Int) == 43) = true := by simp; omega
      have t45 : ((s[0].toNat : Int) == 45) = false := by simp; omega
      by_cases h1 : s.size = 1
      · have HL : Hid _ := year_lone hz (Or.inl h43) h1
        have ti : ((1 : Int) == (s.size : Int)) = true := by simp; omega
        clear h43 h1
        go_enter Ybaf.func6, Ybaf.ntmps6
        go_wp2
        go_ret2
        exact ⟨by rw [HL.out]; rfl, rfl⟩
      · have HY : Hid (year s.data.toList = fin false (digs 0 (s.data.toList.drop 1))) := by have := year_sign hz (Or.inl h43) h1; rw [this, h43]; rfl
        have ti : ((1 : Int) == (s.size : Int)) = false := by simp; omega
        have hsz : 1 < s.size := by omega
        clear h43 h1
        go_enter Ybaf.func6, Ybaf.ntmps6
        go_wp2
        go_loop [4, 6] (fun i v => ∃ (k vn : Nat), k ≤ s.size ∧ i = .int .i64 k ∧ v = .int .i64 vn ∧ vn ≤ 100019 ∧ Hid (digs vn (s.data.toList.drop k) = digs 0 (s.data.toList.drop 1))) (fun i _ => s.size - (intOf i).toNat)
        case atStart => exact ⟨1, 0, by omega, rfl, rfl, by omega, rfl⟩
        case round =>
          obtain ⟨k, vn, hk, rfl, rfl, hvn, hdg⟩ := hrel
          by_cases hlt : k < s.size
          · by_cases hd : 48 ≤ s[k].toNat ∧ s[k].toNat ≤ 57
            · have HS : Hid _ := digs_yes (v := vn) hlt hd
              obtain ⟨hd1, hd2⟩ := hd
              by_cases hv : vn ≤ 10001
              · go_wp2
                go_round
                case rel => exact ⟨k + 1, vn * 10 + (s[k].toNat - 48), by omega, by go_num, by go_num, by omega, by show _ = _; rw [← hdg.out, HS.out, if_pos hv]⟩
                case measure => simp [intOf]; omega
              · go_wp2
                go_round
                case rel => exact ⟨k + 1, vn, by omega, by go_num, rfl, hvn, by show _ = _; rw [← hdg.out, HS.out, if_neg hv]⟩
                case measure => simp [intOf]; omega
            · have HN : Hid _ := HY.out.trans (by rw [← hdg.out, digs_no (v := vn) hlt hd])
              by_cases hlo : s[k].toNat < 48
              · go_wp2
                go_ret2
                exact ⟨by rw [HN.out]; rfl, rfl⟩
              · have hhi : 57 < s[k].toNat := by omega
                go_wp2
                go_ret2
                exact ⟨by rw [HN.out]; rfl, rfl⟩
          · have HE : Hid _ := HY.out.trans (by rw [← hdg.out, digs_end (v := vn) hlt])
            by_cases hbig : 10001 < vn
            · go_wp2
              go_ret2
              exact ⟨by rw [HE.out, fin_big hbig]; rfl, rfl⟩
            · go_wp2
              go_ret2
              exact ⟨by rw [HE.out, fin_plain hbig]; rfl, rfl⟩
    · by_cases h45 : s[0].toNat = 45
      · have t43 : ((s[0].toNat : Int) == 43) = false := by simp; omega
        have t45 : ((s[0].toNat : Int) == 45) = true := by simp; omega
        by_cases h1 : s.size = 1
        · have HL : Hid _ := year_lone hz (Or.inr h45) h1
          have ti : ((1 : Int) == (s.size : Int)) = true := by simp; omega
          clear h43 h45 h1
          go_enter Ybaf.func6, Ybaf.ntmps6
          go_wp2
          go_ret2
          exact ⟨by rw [HL.out]; rfl, rfl⟩
        · have HY : Hid (year s.data.toList = fin true (digs 0 (s.data.toList.drop 1))) := by have := year_sign hz (Or.inr h45) h1; rw [this, h45]; rfl
          have ti : ((1 : Int) == (s.size : Int)) = false := by simp; omega
          have hsz : 1 < s.size := by omega
          clear h43 h45 h1
          go_enter Ybaf.func6, Ybaf.ntmps6
          go_wp2
          go_loop [4, 6] (fun i v => ∃ (k vn : Nat), k ≤ s.size ∧ i = .int .i64 k ∧ v = .int .i64 vn ∧ vn ≤ 100019 ∧ Hid (digs vn (s.data.toList.drop k) = digs 0 (s.data.toList.drop 1))) (fun i _ => s.size - (intOf i).toNat)
          case atStart => exact ⟨1, 0, by omega, rfl, rfl, by omega, rfl⟩
          case round =>
            obtain ⟨k, vn, hk, rfl, rfl, hvn, hdg⟩ := hrel
            by_cases hlt : k < s.size
            · by_cases hd : 48 ≤ s[k].toNat ∧ s[k].toNat ≤ 57
              · have HS : Hid _ := digs_yes (v := vn) hlt hd
                obtain ⟨hd1, hd2⟩ := hd
                by_cases hv : vn ≤ 10001
                · go_wp2
                  go_round
                  case rel => exact ⟨k + 1, vn * 10 + (s[k].toNat - 48), by omega, by go_num, by go_num, by omega, by show _ = _; rw [← hdg.out, HS.out, if_pos hv]⟩
                  case measure => simp [intOf]; omega
                · go_wp2
                  go_round
                  case rel => exact ⟨k + 1, vn, by omega, by go_num, rfl, hvn, by show _ = _; rw [← hdg.out, HS.out, if_neg hv]⟩
                  case measure => simp [intOf]; omega
              · have HN : Hid _ := HY.out.trans (by rw [← hdg.out, digs_no (v := vn) hlt hd])
                by_cases hlo : s[k].toNat < 48
                · go_wp2
                  go_ret2
                  exact ⟨by rw [HN.out]; rfl, rfl⟩
                · have hhi : 57 < s[k].toNat := by omega
                  go_wp2
                  go_ret2
                  exact ⟨by rw [HN.out]; rfl, rfl⟩
            · have HE : Hid _ := HY.out.trans (by rw [← hdg.out, digs_end (v := vn) hlt])
              by_cases hbig : 10001 < vn
              · go_wp2
                go_ret2
                exact ⟨by rw [HE.out, fin_big hbig]; rfl, rfl⟩
              · by_cases h0 : vn = 0
                · subst h0
                  go_wp2
                  go_ret2
                  exact ⟨by rw [HE.out]; rfl, rfl⟩
                · have hz : ((vn : Int) != 0) = true := by simp; omega
                  go_wp2
                  go_ret2
                  exact ⟨by rw [HE.out, fin_neg h0]; rfl, rfl⟩
      · have t43 : ((s[0].toNat : Int) == 43) = false := by simp; omega
        have t45 : ((s[0].toNat : Int) == 45) = false := by simp; omega
        have HY : Hid (year s.data.toList = fin false (digs 0 (s.data.toList.drop 0))) := year_bare hz (by omega)
        have ti : ((0 : Int) == (s.size : Int)) = false := by simp; omega
        clear h43 h45
        go_enter Ybaf.func6, Ybaf.ntmps6
        go_wp2
        go_loop [4, 6] (fun i v => ∃ (k vn : Nat), k ≤ s.size ∧ i = .int .i64 k ∧ v = .int .i64 vn ∧ vn ≤ 100019 ∧ Hid (digs vn (s.data.toList.drop k) = digs 0 (s.data.toList.drop 0))) (fun i _ => s.size - (intOf i).toNat)
        case atStart => exact ⟨0, 0, by omega, rfl, rfl, by omega, rfl⟩
        case round =>
          obtain ⟨k, vn, hk, rfl, rfl, hvn, hdg⟩ := hrel
          by_cases hlt : k < s.size
          · by_cases hd : 48 ≤ s[k].toNat ∧ s[k].toNat ≤ 57
            · have HS : Hid _ := digs_yes (v := vn) hlt hd
              obtain ⟨hd1, hd2⟩ := hd
              by_cases hv : vn ≤ 10001
              · go_wp2
                go_round
                case rel => exact ⟨k + 1, vn * 10 + (s[k].toNat - 48), by omega, by go_num, by go_num, by omega, by show _ = _; rw [← hdg.out, HS.out, if_pos hv]⟩
                case measure => simp [intOf]; omega
              · go_wp2
                go_round
                case rel => exact ⟨k + 1, vn, by omega, by go_num, rfl, hvn, by show _ = _; rw [← hdg.out, HS.out, if_neg hv]⟩
                case measure => simp [intOf]; omega
            · have HN : Hid _ := HY.out.trans (by rw [← hdg.out, digs_no (v := vn) hlt hd])
              by_cases hlo : s[k].toNat < 48
              · go_wp2
                go_ret2
                exact ⟨by rw [HN.out]; rfl, rfl⟩
              · have hhi : 57 < s[k].toNat := by omega
                go_wp2
                go_ret2
                exact ⟨by rw [HN.out]; rfl, rfl⟩
          · have HE : Hid _ := HY.out.trans (by rw [← hdg.out, digs_end (v := vn) hlt])
            by_cases hbig : 10001 < vn
            · go_wp2
              go_ret2
              exact ⟨by rw [HE.out, fin_big hbig]; rfl, rfl⟩
            · go_wp2
              go_ret2
              exact ⟨by rw [HE.out, fin_plain hbig]; rfl, rfl⟩
  · have hl : s.data.toList = [] := by
      have h0 : s.data.toList.length = 0 := by show s.size = 0; omega
      exact List.eq_nil_of_length_eq_zero h0
    have HL : Hid (year s.data.toList = none) := by rw [hl]; rfl
    have ti : ((0 : Int) == (s.size : Int)) = true := by simp; omega
    clear hl
    go_enter Ybaf.func6, Ybaf.ntmps6
    go_wp2
    go_ret2
    exact ⟨by rw [HL.out]; rfl, rfl⟩

end Go.Proofs.YbulkokeFmt
