/-
  OWN WORK (seat b0735aD). The walk of 'zzs0735cdec': it returns Lib.itoa of its argument.
-/
import Derived.Test.YbulkoeuDoorRows
import Derived.WalkKit
import Derived.WalkSpells
import Derived.Lib.ItoaMem
import Derived.Lib.UnsafeStr
import Derived.Lib.Buffer
namespace Go.Proofs.YbulkoeuDoor
open Go.RowKit

/-- The digits of what is left, ahead of those that lie already. -/
def rest (u : Nat) : List UInt8 := if u = 0 then [] else Lib.decDigits u

theorem rest_step (u : Nat) (h : 0 < u) : rest u = rest (u / 10) ++ [UInt8.ofNat (48 + u % 10)] := by
  unfold rest
  rw [if_neg (by omega), Lib.decDigits]
  by_cases h10 : u < 10
  · rw [dif_pos h10, if_pos (by omega)]; simp [Nat.mod_eq_of_lt h10]
  · rw [dif_neg h10, if_neg (by omega)]

theorem room_step {u k : Nat} (h : 0 < u) (hu : u < 10 ^ (k - 4)) : 4 < k ∧ u / 10 < 10 ^ (k - 1 - 4) := by
  have hk : 4 < k := by
    rcases Nat.lt_or_ge 4 k with h' | h'
    · exact h'
    · rw [show k - 4 = 0 from by omega] at hu; simp at hu; omega
  refine ⟨hk, ?_⟩
  obtain ⟨j, rfl⟩ : ∃ j, k = j + 5 := ⟨k - 5, by omega⟩
  rw [show j + 5 - 4 = j + 1 from by omega, Nat.pow_succ] at hu
  rw [show j + 5 - 1 - 4 = j from by omega]
  omega

/-- What one store of a digit does to the row. -/
theorem row_step {cur : Array Value} {k : Nat} {ds : List UInt8} {c : UInt8} (hk : 0 < k) (h24 : cur.size = 24) (hk24 : k ≤ 24) (h : cur.toList.drop k = Lib.byteCells ds) :
    (cur.setIfInBounds (k - 1) (.int .u8 (c.toNat : Int))).toList.drop (k - 1) = Lib.byteCells (c :: ds) := by
  obtain ⟨j, rfl⟩ : ∃ j, k = j + 1 := ⟨k - 1, by omega⟩
  have hj : j < cur.toList.length := by simp; omega
  rw [show j + 1 - 1 = j from rfl, Array.toList_setIfInBounds, List.drop_set, if_neg (by omega), Nat.sub_self]
  rw [List.drop_eq_getElem_cons hj, h]
  simp [Lib.byteCells]

theorem arr51 : Ybad.prog.arrayLen 51 = 24 := by kernel_rfl
theorem und51 : Ybad.prog.underlying 51 = some (.array (Ybad.prog.arrayLen 51) (Ybad.prog.elem 51)) := by kernel_rfl
theorem size_elem51 (W : World) : (Go.sizeOf (Ybad.prog.elem 51)).run Ybad.prog W = .ok 1 W := by kernel_rfl

theorem slice_from (b k : Nat) (hk : k < 24) (W : World) :
    (Instr.sliceAt 51 (.pointer (some ⟨b, 0, none⟩)) (some (.int .i64 (k : Int))) none none).run Ybad.prog W = .ok (.slice (some ⟨b, k, none⟩) (24 - k) (24 - k)) W := by
  rw [run_sliceAt_array_l W 51 _ und51 .i64 (k : Int) (by omega) (by rw [arr51]; omega), size_elem51]
  simp only [Result.andThen, slicedAt, arr51]
  rw [if_neg (by omega), Go.WideShapes.add_plain]
  simp

theorem conv_from {w : World} {cur : Array Value} {k : Nat} {ds : List UInt8} (h24 : cur.size = 24) (h : cur.toList.drop k = Lib.byteCells ds) :
    (convert 22 9 (.slice (some ⟨w.heap.size, k, none⟩) (24 - k) (24 - k))).run Ybad.prog (w.alloc (.cells cur 51)) = .ok (.string ⟨ds.toArray⟩) (w.alloc (.cells cur 51)) := by
  have hl : ds.length = 24 - k := by
    have := congrArg List.length h
    rw [Lib.byteCells_length, List.length_drop] at this
    simp at this; omega
  rw [← hl]
  refine run_convert_bytes_back (P := Ybad.prog) _ 22 9 5 ⟨w.heap.size, k, none⟩ ds.length ds Ybad.underlying22 Ybad.underlying5 Ybad.underlying9 (fun j hj => ?_)
  rw [Go.WideShapes.add_plain, Lib.cell_of_heap (heap_alloc_new w _)]
  have : cur.toList[k + j]? = some (.int .u8 (ds[j].toNat : Int)) := by
    rw [← List.getElem?_drop, h]; simp [Lib.byteCells, hj]
  simpa using this

theorem old_cell {w : World} {cur : Array Value} {k : Nat} (h : k < cur.size) : ∃ v, (w.alloc (.cells cur 51)).cell? ⟨w.heap.size, k, none⟩ = some v := by
  rw [Lib.cell_of_heap (heap_alloc_new w _)]
  exact ⟨cur[k], by simp [h]⟩

theorem byte48 (u : Nat) : ((UInt8.ofNat (48 + u % 10)).toNat : Int) = 48 + (u : Int) % 10 := by
  have : (UInt8.ofNat (48 + u % 10)).toNat = 48 + u % 10 := by simp; omega
  rw [this]; omega

/-- Nothing is left: the digits that lie are all; at least one lies. -/
theorem dec_done {m k : Nat} {cur : Array Value} {ds : List UInt8} (hm : 0 < m) (h24 : cur.size = 24) (hrow : cur.toList.drop k = Lib.byteCells ds) (hds : rest 0 ++ ds = rest m) :
    ds = Lib.decDigits m ∧ k < 24 := by
  have hd : ds = Lib.decDigits m := by
    rw [show rest 0 = [] from rfl, List.nil_append] at hds
    rw [hds, rest, if_neg (by omega)]
  refine ⟨hd, ?_⟩
  have hl : ds.length = 24 - k := by
    have := congrArg List.length hrow
    rw [Lib.byteCells_length, List.length_drop] at this
    simp at this; omega
  have : 0 < ds.length := by
    rw [hd, Lib.decDigits]; split <;> simp
  omega

set_option maxHeartbeats 1000000 in
set_option maxRecDepth 100000 in
theorem dec_pos (m : Nat) (w : World) (h0 : 0 < m) (h1 : (m : Int) ≤ 9223372036854775807) (hroom : Hid (m < 10 ^ 20)) :
    Calls Ybad.prog 11 #[.int .i64 m] w fun e w' => e = .returned (.string ⟨(Lib.itoa m).toArray⟩) ∧ Below w.heap.size w w' := by
  have ht0 : decide ((m : Int) < 0) = false := by simp
  have ht1 : ((m : Int) == 0) = false := by simp; omega
  go_enter Ybad.func11, Ybad.ntmps11
  go_wp2_with fail
  go_loopw [3, 6] (fun u i wr => ∃ (k un : Nat) (cur : Array Value) (ds : List UInt8), wr = w.alloc (.cells cur 51) ∧ cur.size = 24 ∧ k ≤ 24 ∧ 4 ≤ k ∧ i = .int .i64 k ∧ u = .int .u64 un ∧ un ≤ m ∧
      Hid (un < 10 ^ (k - 4)) ∧ Hid (cur.toList.drop k = Lib.byteCells ds) ∧ Hid (rest un ++ ds = rest m)) (fun u _ _ => (intOf u).toNat)
  case atStart => exact ⟨24, m, _, [], rfl, rfl, Nat.le_refl _, by decide, rfl, rfl, Nat.le_refl _, hroom, rfl, by simp [Hid]⟩
  case round =>
    obtain ⟨k, un, cur, ds, rfl, h24, hk, hk4, rfl, rfl, hum, hrm, hrow, hds⟩ := hrel
    by_cases hu : 0 < un
    · have HR : Hid _ := room_step hu hrm.out
      have hk5 : 4 < k := HR.out.1
      have HW : Hid _ := row_step (c := UInt8.ofNat (48 + un % 10)) (by omega) h24 hk hrow.out
      have HS : Hid _ := rest_step un hu
      obtain ⟨v3, hcell⟩ := old_cell (w := w) (k := k - 1) (cur := cur) (by omega)
      go_wp2
      go_roundw
      case rel =>
        refine ⟨k - 1, un / 10, _, UInt8.ofNat (48 + un % 10) :: ds, rfl, ?_, by omega, by omega, ?_, ?_, by omega, HR.out.2, ?_, ?_⟩
        · simp [h24]
        · go_num
        · go_num
        · rw [← byte48]; exact HW.out
        · show rest (un / 10) ++ _ = rest m
          rw [← hds.out, HS.out]; simp
      case measure => simp [intOf]; omega
    · obtain rfl : un = 0 := by omega
      have HD : Hid _ := dec_done h0 h24 hrow.out hds.out
      have hk24 : k < 24 := HD.out.2
      have hsl := slice_from w.heap.size k hk24
      have hcv := conv_from (w := w) h24 hrow.out
      go_wp2
      go_ret
      refine ⟨?_, (Below.refl _ w).alloc (Nat.le_refl _) _⟩
      rw [Lib.itoa_nonneg, ← HD.out.1]; rfl

theorem neg_wrap (m : Nat) (h0 : 0 < m) (h1 : (m : Int) ≤ 9223372036854775808) : IntKind.u64.wrap (-IntKind.u64.wrap (-(m : Int))) = (m : Int) := by
  rw [IntKind.wrap_u64, IntKind.wrap_u64]; omega

set_option maxHeartbeats 1000000 in
set_option maxRecDepth 100000 in
theorem dec_neg (m : Nat) (w : World) (h0 : 0 < m) (h1 : (m : Int) ≤ 9223372036854775808) (hroom : Hid (m < 10 ^ 20)) :
    Calls Ybad.prog 11 #[.int .i64 (-(m : Int))] w fun e w' => e = .returned (.string ⟨(Lib.itoa (-(m : Int))).toArray⟩) ∧ Below w.heap.size w w' := by
  have ht0 : decide (-(m : Int) < 0) = true := by simp; omega
  have ht1 : ((m : Int) == 0) = false := by simp; omega
  have hwr := neg_wrap m h0 h1
  go_enter Ybad.func11, Ybad.ntmps11
  go_wp2_with fail
  go_loopw [3, 6] (fun u i wr => ∃ (k un : Nat) (cur : Array Value) (ds : List UInt8), wr = w.alloc (.cells cur 51) ∧ cur.size = 24 ∧ k ≤ 24 ∧ 4 ≤ k ∧ i = .int .i64 k ∧ u = .int .u64 un ∧ un ≤ m ∧
      Hid (un < 10 ^ (k - 4)) ∧ Hid (cur.toList.drop k = Lib.byteCells ds) ∧ Hid (rest un ++ ds = rest m)) (fun u _ _ => (intOf u).toNat)
  case atStart => exact ⟨24, m, _, [], rfl, rfl, Nat.le_refl _, by decide, rfl, rfl, Nat.le_refl _, hroom, rfl, by simp [Hid]⟩
  case round =>
    obtain ⟨k, un, cur, ds, rfl, h24, hk, hk4, rfl, rfl, hum, hrm, hrow, hds⟩ := hrel
    by_cases hu : 0 < un
    · have HR : Hid _ := room_step hu hrm.out
      have hk5 : 4 < k := HR.out.1
      have HW : Hid _ := row_step (c := UInt8.ofNat (48 + un % 10)) (by omega) h24 hk hrow.out
      have HS : Hid _ := rest_step un hu
      obtain ⟨v3, hcell⟩ := old_cell (w := w) (k := k - 1) (cur := cur) (by omega)
      go_wp2
      go_roundw
      case rel =>
        refine ⟨k - 1, un / 10, _, UInt8.ofNat (48 + un % 10) :: ds, rfl, ?_, by omega, by omega, ?_, ?_, by omega, HR.out.2, ?_, ?_⟩
        · simp [h24]
        · go_num
        · go_num
        · rw [← byte48]; exact HW.out
        · show rest (un / 10) ++ _ = rest m
          rw [← hds.out, HS.out]; simp
      case measure => simp [intOf]; omega
    · obtain rfl : un = 0 := by omega
      have HD : Hid _ := dec_done h0 h24 hrow.out hds.out
      have hk24 : k < 24 := HD.out.2
      have HW : Hid _ := row_step (c := 45) (by omega) h24 hk hrow.out
      obtain ⟨v3, hcell⟩ := old_cell (w := w) (k := k - 1) (cur := cur) (by omega)
      have hsl := slice_from w.heap.size (k - 1) (by omega)
      rw [show ((k - 1 : Nat) : Int) = (k : Int) - 1 from by omega] at hsl
      have hcv := conv_from (w := w) (cur := cur.setIfInBounds (k - 1) (.int .u8 45)) (by simpa using h24) HW.out
      go_wp2
      go_ret
      refine ⟨?_, (Below.refl _ w).alloc (Nat.le_refl _) _⟩
      rw [Lib.itoa_neg m h0, ← HD.out.1]; rfl

theorem dec_zero (w : World) :
    Calls Ybad.prog 11 #[.int .i64 0] w fun e w' => e = .returned (.string ⟨(Lib.itoa 0).toArray⟩) ∧ Below w.heap.size w w' := by
  go_enter Ybad.func11, Ybad.ntmps11
  go_wp2
  go_ret
  exact ⟨by rw [show Lib.itoa 0 = [48] from by unfold Lib.itoa; rw [if_neg (by decide), Lib.decDigits]; rfl]; rfl, Below.refl _ _⟩

/-- The decimal text of every int. -/
theorem dec_any (n : Int) (w : World) (h0 : -9223372036854775808 ≤ n) (h1 : n ≤ 9223372036854775807) :
    Calls Ybad.prog 11 #[.int .i64 n] w fun e w' => e = .returned (.string ⟨(Lib.itoa n).toArray⟩) ∧ Below w.heap.size w w' := by
  rcases Int.lt_trichotomy n 0 with h | rfl | h
  · obtain ⟨m, hm⟩ : ∃ m : Nat, n = -(m : Int) := ⟨n.natAbs, by omega⟩
    subst hm
    exact dec_neg m w (by omega) (by omega) (by show m < 10 ^ 20; omega)
  · exact dec_zero w
  · obtain ⟨m, hm⟩ : ∃ m : Nat, n = (m : Int) := ⟨n.toNat, by omega⟩
    subst hm
    exact dec_pos m w (by omega) (by omega) (by show m < 10 ^ 20; omega)
end Go.Proofs.YbulkoeuDoor
