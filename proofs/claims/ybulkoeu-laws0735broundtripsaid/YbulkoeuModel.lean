/-
  OWN WORK (seat b0735a). The walk of 'zzs0735bmodel': it returns unqS and opnS of its text.
-/
import Derived.Test.YbulkoeuRows
import Derived.Test.YbulkoeuPlain
import Derived.WalkKit
import Derived.WalkSpells
import Derived.Lib.Buffer
import Derived.Lib.UnsafeStr
namespace Go.Proofs.Ybulkoeu
open Go.RowKit

theorem infoByte : (Yba.prog.info? 5).map (fun i => (i.zero, i.size, i.bytes)) = some (some (.int .u8 0), 1, 1) := by kernel_rfl

/-- A row of bytes that the call owns, as a string. -/
theorem own_string (w : World) (B : Nat) (v : Value) (acc : List UInt8) (h : w.ownsRow B 5 1 v acc.length (Lib.byteCells acc)) :
    (convert 27 9 v).run Yba.prog w = .ok (.string ⟨acc.toArray⟩) w := by
  rcases h.2 with ⟨rfl, hn⟩ | ⟨g, cap, cur, rfl, _, hg, _, _, _, htk⟩
  · have : acc = [] := List.eq_nil_of_length_eq_zero hn
    subst this
    exact run_convert_bytes_nil (P := Yba.prog) w 27 5 Yba.underlying27 Yba.underlying5 0 0 9 Yba.underlying9
  · rw [Nat.mul_one] at htk
    exact run_convert_bytes_back (P := Yba.prog) w 27 9 5 ⟨g, 0, none⟩ cap acc Yba.underlying27 Yba.underlying5 Yba.underlying9 (fun j hj => Lib.cells_of_row hg acc.length j _ (by rw [htk]; simp [Lib.byteCells, hj]))

theorem byte_eq (c : UInt8) : (((c.toNat : Int) == 92) = decide (c = 92)) := by
  rw [Bool.eq_iff_iff]
  simp only [beq_iff_eq, decide_eq_true_eq]
  constructor
  · intro h; exact UInt8.toNat.inj (by simpa using (by omega : c.toNat = 92))
  · rintro rfl; rfl

/-- What one append of a byte leaves. -/
theorem own_snoc {w1 : World} {B : Nat} {v' : Value} {acc : List UInt8} {c : UInt8} (h : w1.ownsRow B 5 1 v' (acc.length + 1) (Lib.byteCells acc ++ [.int .u8 (c.toNat : Int)])) :
    w1.ownsRow B 5 1 v' (acc ++ [c]).length (Lib.byteCells (acc ++ [c])) := by
  rw [Lib.byteCells_append]; simpa [Lib.byteCells] using h

theorem get_data (s : ByteArray) (k : Nat) (h : k < s.size) : s.data.toList[k]'(by simpa using h) = s[k] := rfl

theorem model_end {l acc : List UInt8} {b : Bool} {k : Nat} (hk : l.length ≤ k) (hu : acc ++ unqS b (l.drop k) = unqS false l) (ho : opnS b (l.drop k) = opnS false l) :
    acc = unqS false l ∧ b = opnS false l := by
  rw [List.drop_eq_nil_of_le hk] at hu ho
  exact ⟨by cases b <;> simpa [unqS] using hu, by cases b <;> simpa [opnS] using ho⟩

/-- A byte is taken over: b is open, or the byte is no backslash. -/
theorem model_take {l acc : List UInt8} {b : Bool} {k : Nat} (hk : k < l.length) (hu : acc ++ unqS b (l.drop k) = unqS false l) (ho : opnS b (l.drop k) = opnS false l) (hb : b = true ∨ l[k] ≠ 92) :
    (acc ++ [l[k]]) ++ unqS false (l.drop (k + 1)) = unqS false l ∧ opnS false (l.drop (k + 1)) = opnS false l := by
  cases b
  · rcases hb with hb | hb
    · cases hb
    · rw [unq_false_no l k hk hb] at hu; rw [opn_false_no l k hk hb] at ho
      exact ⟨by simpa using hu, ho⟩
  · rw [unq_true l k hk] at hu; rw [opn_true l k hk] at ho
    exact ⟨by simpa using hu, ho⟩

theorem model_open_at {l acc : List UInt8} {k : Nat} (hk : k < l.length) (hu : acc ++ unqS false (l.drop k) = unqS false l) (ho : opnS false (l.drop k) = opnS false l) (hb : l[k] = 92) :
    acc ++ unqS true (l.drop (k + 1)) = unqS false l ∧ opnS true (l.drop (k + 1)) = opnS false l := by
  rw [unq_false_yes l k hk hb] at hu; rw [opn_false_yes l k hk hb] at ho
  exact ⟨hu, ho⟩

set_option maxHeartbeats 1000000 in
set_option maxRecDepth 1000000 in
theorem model_any (s : ByteArray) (w : World) (hs : s.size ≤ 1024) :
    Calls Yba.prog 5 #[.string s] w fun e w' => e = .returned (.tuple #[.string ⟨(unqS false s.data.toList).toArray⟩, .bool (opnS false s.data.toList)]) ∧ Below w.heap.size w w' := by
  obtain ⟨i0, hi, hz0, hz1, hz2⟩ := info_parts infoByte
  go_enter Yba.func5, Yba.ntmps5
  go_wp2_with (at_make; refine wpList_make_own _ rfl _ _ 27 rfl w.heap.size 5 i0 (.int .u8 0) 1 Yba.underlying27 hi hz0 hz1 .i64 .i64 _ s.size rfl rfl rfl ?_ ?_ ?_ ?_)
  · rw [hz2]; omega
  · unfold maxLen; omega
  · exact Nat.le_refl _
  intro w0 hown0 hg0
  have hb0 : Below w.heap.size w w0 := (Below.refl _ w).grown hg0 (Nat.le_refl _) (by intro k hk; cases hk)
  clear hg0
  go_wp2
  go_loopw [4, 5, 6] (fun v e i wr => ∃ (k : Nat) (b : Bool) (acc : List UInt8), k ≤ s.size ∧ i = .int .i64 k ∧ e = .bool b ∧ wr.ownsRow w.heap.size 5 1 v acc.length (Lib.byteCells acc) ∧ Below w.heap.size w wr ∧
      Hid (acc ++ unqS b (s.data.toList.drop k) = unqS false s.data.toList) ∧ Hid (opnS b (s.data.toList.drop k) = opnS false s.data.toList) ∧ acc.length ≤ k) (fun _ _ i _ => s.size - (intOf i).toNat)
  case atStart => exact ⟨0, false, [], Nat.zero_le _, rfl, rfl, hown0, hb0, rfl, rfl, Nat.le_refl _⟩
  case round =>
    obtain ⟨k, b, acc, hk, rfl, rfl, hown, hb, hu, ho, hal⟩ := hrel
    clear hown0 hb0
    by_cases hlt : k < s.size
    · have hsl : k < s.data.toList.length := by simpa using hlt
      by_cases hb1 : b = true ∨ s[k] ≠ 92
      · have R := model_take hsl hu.out ho.out hb1
        have HR : Hid _ := R
        clear R
        have HB : Hid _ := hb1
        clear hb1
        have hin : ∀ (a : Act), True := fun _ => trivial
        clear hin
        cases b
        · have hne : ((s[k].toNat : Int) == 92) = false := by
            rw [byte_eq]; rcases HB.out with h | h
            · cases h
            · simpa using h
          go_wp2_with (at_builtin; refine wpList_append_own _ rfl _ _ 27 rfl w.heap.size 5 i0 (.int .u8 0) 1 1 Yba.underlying27 hi hz0 hz1 hz2 rfl (by decide) _ _ _ rfl (hown.alloc _) ⟨wr.heap.size, 0, none⟩ 1 1 [.int .u8 (s[k].toNat : Int)] rfl rfl ?c1 ?c2 ?c3 ?c4 ?c5 ?_)
          case c1 => exact cell_one_new _ _ _
          case c2 => intro u hu; simp at hu; subst hu; rfl
          case c3 => unfold maxLen; omega
          case c4 => omega
          case c5 => have := hb.size; simp; omega
          intro v' w1 hown' hgrow _
          have hb1 : Below w.heap.size w w1 := (hb.alloc (by have := hb.size; omega) _).grown hgrow (by have := hb.size; simp; omega) (fun j hj => (hown.lt j hj).1)
          have hown1 := own_snoc hown'
          clear hown' hgrow hown
          go_wp2
          go_roundw
          case rel => exact ⟨k + 1, false, acc ++ [s[k]], by omega, by go_num, rfl, hown1, hb1, HR.out.1, HR.out.2, by simp; omega⟩
          case measure => simp [intOf]; omega
        · go_wp2_with (at_builtin; refine wpList_append_own _ rfl _ _ 27 rfl w.heap.size 5 i0 (.int .u8 0) 1 1 Yba.underlying27 hi hz0 hz1 hz2 rfl (by decide) _ _ _ rfl (hown.alloc _) ⟨wr.heap.size, 0, none⟩ 1 1 [.int .u8 (s[k].toNat : Int)] rfl rfl ?d1 ?d2 ?d3 ?d4 ?d5 ?_)
          case d2 => rfl
          case d3 => unfold maxLen; omega
          case d4 => omega
          case d5 => have := hb.size; simp; omega
          intro v' w1 hown' hgrow _
          have hb1 : Below w.heap.size w w1 := (hb.alloc (by have := hb.size; omega) _).grown hgrow (by have := hb.size; simp; omega) (fun j hj => (hown.lt j hj).1)
          have hown1 := own_snoc hown'
          clear hown' hgrow hown
          go_wp2
          go_roundw
          case rel => exact ⟨k + 1, false, acc ++ [s[k]], by omega, by go_num, rfl, hown1, hb1, HR.out.1, HR.out.2, by simp; omega⟩
          case measure => simp [intOf]; omega
      · obtain ⟨hbf, h92⟩ : b = false ∧ s[k] = 92 := by
          refine ⟨by cases b <;> simp_all, Decidable.not_not.1 fun h => hb1 (Or.inr h)⟩
        clear hb1
        subst hbf
        have HR : Hid _ := model_open_at hsl hu.out ho.out h92
        have hne : ((s[k].toNat : Int) == 92) = true := by rw [byte_eq]; simpa using h92
        clear h92
        go_wp2
        go_roundw
        case rel => exact ⟨k + 1, true, acc, by omega, by go_num, rfl, hown, hb, HR.out.1, HR.out.2, by omega⟩
        case measure => simp [intOf]; omega
    · have hcv := own_string wr _ _ _ hown
      have HE : Hid _ := model_end (l := s.data.toList) (by simpa using hlt) hu.out ho.out
      go_wp2
      go_ret2
      exact ⟨by rw [← HE.out.1, ← HE.out.2]; rfl, hb⟩

end Go.Proofs.Ybulkoeu
