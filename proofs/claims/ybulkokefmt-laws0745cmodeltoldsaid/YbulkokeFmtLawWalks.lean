/-
  OWN WORK (seat b0745aF). The walks of the two laws.
-/
import Derived.Test.YbulkokeFmtYear
import Derived.Lib.ItoaLen
namespace Go.Proofs.YbulkokeFmt
open Go.RowKit

/-- What the walks are told of the two sentinels' cells. -/
def Sentinels (w : World) : Prop := ∃ ev0 ev1, w.cell? ⟨0, 0, none⟩ = some ev0 ∧ (∃ te pe, ev0 = .iface te pe) ∧ w.cell? ⟨1, 0, none⟩ = some ev1 ∧ (∃ te pe, ev1 = .iface te pe)

theorem Sentinels.below {w w' : World} {B : Nat} (h : Sentinels w) (hb : Below B w w') (hB : 2 ≤ B) : Sentinels w' := by
  obtain ⟨ev0, ev1, h0, e0, h1, e1⟩ := h
  exact ⟨ev0, ev1, (hb.cell (p := ⟨0, 0, none⟩) (by show 0 < B; omega)).trans h0, e0, (hb.cell (p := ⟨1, 0, none⟩) (by show 1 < B; omega)).trans h1, e1⟩

/-- parseYear wherever no year within 0 .. 10001 stands: 0 and an error that is not nil. -/
theorem parse_bad (s : ByteArray) (w : World) (hs : s.size ≤ 281474976710656) (h : ∀ v, Lib.atoiAll s.data.toList = .ok v → v < 0 ∨ 10001 < v) (hS : Sentinels w) :
    Calls Ybaf.prog 5 #[.string s] w fun e w' => (∃ T N, e = .returned (.tuple #[.int .i64 0, .iface T (.pointer (some ⟨N, 0, none⟩))])) ∧ Below w.heap.size w w' := by
  by_cases hex : ∃ v, Lib.atoiAll s.data.toList = .ok v
  · obtain ⟨v, hv⟩ := hex
    rcases h v hv with h' | h'
    · exact parse_below s v w hs hv h'
    · exact parse_beyond s v w hs hv h'
  · obtain ⟨ev0, ev1, h0, e0, h1, e1⟩ := hS
    exact parse_fails s w hs (fun v hv => hex ⟨v, hv⟩) ev0 ev1 h0 e0 h1 e1

set_option maxHeartbeats 1000000 in
theorem model_walk (s : ByteArray) (w : World) (hS : Sentinels w) :
    Calls Ybaf.prog 3 #[.string s] w fun e w' => e = .returned (.bool true) ∧ Below w.heap.size w w' := by
  by_cases hs : s.size ≤ 1024
  · cases hy : year s.data.toList with
    | some v =>
      have HP : Hid _ := year_some hy
      have HY : Hid _ := hy
      have hv : v ≤ 10001 := HP.out.2
      clear hy hS
      go_enter Ybaf.func3, Ybaf.ntmps3
      go_wp2_with (go_at_call 5; refine (parse_good s v _ (by omega) HP.out.1 (by omega) (by omega)).mono ?_; rintro e w1 ⟨rfl, hb1⟩)
      refine (model_any s _ hs).mono ?_
      rw [HY.out]
      unfold tup
      rintro e w2 ⟨rfl, rfl⟩
      go_wp2
      go_ret
      exact ⟨rfl, hb1⟩
    | none =>
      have HN : Hid _ := fun (v : Int) hv => year_none hy v hv
      have HY : Hid _ := hy
      have HS : Hid _ := hS
      clear hy hS
      go_enter Ybaf.func3, Ybaf.ntmps3
      go_wp2_with (go_at_call 5; refine (parse_bad s _ (by omega) HN.out HS.out).mono ?_; rintro e w1 ⟨⟨T, N, rfl⟩, hb1⟩)
      refine (model_any s _ hs).mono ?_
      rw [HY.out]
      unfold tup
      rintro e w2 ⟨rfl, rfl⟩
      go_wp2
      go_ret
      exact ⟨rfl, hb1⟩
  · go_enter Ybaf.func3, Ybaf.ntmps3
    go_wp2
    go_ret
    exact ⟨rfl, Below.refl _ _⟩

set_option maxHeartbeats 1000000 in
theorem itoa_walk (n : Int) (w : World) (h0 : -9223372036854775808 ≤ n) (h1 : n ≤ 9223372036854775807) (htab : Lib.TabIs Ybaf.prog w powName .u64 Lib.pow10Tab) (hS : Sentinels w) (hB : 2 ≤ w.heap.size) :
    Calls Ybaf.prog 4 #[.int .i64 n] w fun e w' => e = .returned (.bool true) ∧ Below w.heap.size w w' := by
  have HA : Hid _ := atoi_itoa n h0 h1
  have HT : Hid _ := htab
  have HS : Hid (Sentinels w) := hS
  have hl := Lib.itoa_length_le n h0 h1
  have hit : ∀ W : World, W = w → Calls Ybaf.prog 7 #[.int .i64 n] W fun e w' => e = .returned (.string ⟨(Lib.itoa n).toArray⟩) ∧ Below w.heap.size w w' := by
    rintro W rfl
    refine (Ybaf.strconv_Itoa n h0 h1 _ HT.out).mono ?_
    rintro e w1 ⟨he, k, os, rfl⟩
    exact ⟨he, Lib.below_grow _ _ (Nat.le_refl _) k os⟩
  have HI : Hid (∀ W : World, W = w → Calls Ybaf.prog 7 #[.int .i64 n] W fun e w' => e = .returned (.string ⟨(Lib.itoa n).toArray⟩) ∧ Below w.heap.size w w') := hit
  clear htab hS hit
  by_cases hr : 0 ≤ n ∧ n ≤ 10001
  · obtain ⟨r0, r1⟩ := hr
    have q0 : decide (0 ≤ n) = true := by simpa using r0
    go_enter Ybaf.func4, Ybaf.ntmps4
    go_wp2_with (go_at_call 7; refine Calls.mono (HI.out _ rfl) ?_; rintro e w1 ⟨rfl, hb1⟩)
    refine (parse_good _ n _ ?_ HA.out r0 r1).mono ?_
    · show (Lib.itoa n).length ≤ _
      omega
    rintro e w2 ⟨rfl, hb2⟩
    go_wp2
    go_ret
    exact ⟨by simp, hb1.trans (hb2.mono hb1.size)⟩
  · have HN : Hid (∀ v, Lib.atoiAll (Lib.itoa n) = .ok v → v < 0 ∨ 10001 < v) := by
      intro v hv
      rw [HA.out] at hv
      injection hv with hv
      omega
    by_cases hn : n < 0
    · clear hr
      go_enter Ybaf.func4, Ybaf.ntmps4
      go_wp2_with (go_at_call 7; refine Calls.mono (HI.out _ rfl) ?_; rintro e w1 ⟨rfl, hb1⟩)
      refine (parse_bad _ _ ?_ HN.out (HS.out.below hb1 hB)).mono ?_
      · show (Lib.itoa n).length ≤ _
        omega
      rintro e w2 ⟨⟨T, N, rfl⟩, hb2⟩
      go_wp2
      go_ret
      exact ⟨rfl, hb1.trans (hb2.mono hb1.size)⟩
    · have hn2 : 10001 < n := by omega
      clear hr
      go_enter Ybaf.func4, Ybaf.ntmps4
      go_wp2_with (go_at_call 7; refine Calls.mono (HI.out _ rfl) ?_; rintro e w1 ⟨rfl, hb1⟩)
      refine (parse_bad _ _ ?_ HN.out (HS.out.below hb1 hB)).mono ?_
      · show (Lib.itoa n).length ≤ _
        omega
      rintro e w2 ⟨⟨T, N, rfl⟩, hb2⟩
      go_wp2
      go_ret
      exact ⟨rfl, hb1.trans (hb2.mono hb1.size)⟩

end Go.Proofs.YbulkokeFmt
