/-
  OWN WORK (seat b0735aD). The walks of Level.String and of the two laws.
-/
import Derived.Test.YbulkoeuDoorShelf
import Derived.Test.YbulkoeuDoorDec
import Derived.Lib.ItoaLen
import Derived.BigCall
namespace Go.Proofs.YbulkoeuDoor
open Go.RowKit

theorem lvl_one (w : World) : Calls Ybad.prog 10 #[.int .i64 1] w fun e w' => e = .returned (.string ⟨#[101, 114, 114, 111, 114]⟩) ∧ w' = w := by
  go_enter Ybad.func10, Ybad.ntmps10
  go_wp2
  go_ret
  exact ⟨rfl, rfl⟩
theorem lvl_two (w : World) : Calls Ybad.prog 10 #[.int .i64 2] w fun e w' => e = .returned (.string ⟨#[119, 97, 114, 110, 105, 110, 103]⟩) ∧ w' = w := by
  go_enter Ybad.func10, Ybad.ntmps10
  go_wp2
  go_ret
  exact ⟨rfl, rfl⟩

/-- "Level(" + the decimal text + ")", as the walk writes it. -/
def lvlText (n : Int) : ByteArray := (⟨#[76, 101, 118, 101, 108, 40]⟩ : ByteArray) ++ (⟨(Lib.itoa n).toArray⟩ : ByteArray) ++ (⟨#[41]⟩ : ByteArray)

set_option maxHeartbeats 1000000 in
theorem lvl_any (n : Int) (w : World) (h0 : -9223372036854775808 ≤ n) (h1 : n ≤ 9223372036854775807) (hn1 : (n == 1) = false) (hn2 : (n == 2) = false)
    (htab : Lib.TabIs Ybad.prog w powName .u64 Lib.pow10Tab) :
    Calls Ybad.prog 10 #[.int .i64 n] w fun e w' => e = .returned (.string (lvlText n)) ∧ Below w.heap.size w w' := by
  have hl := Lib.itoa_length_le n h0 h1
  have HT : Hid _ := htab
  clear htab
  go_enter Ybad.func10, Ybad.ntmps10
  go_wp2_with (go_at_call 14; refine (Ybad.strconv_Itoa n h0 h1 _ HT.out).mono ?_)
  rintro e w1 ⟨rfl, k, os, rfl⟩
  have hb : Below w.heap.size w (Go.Sort.grow (w.drewN k) os) := Lib.below_grow _ w (Nat.le_refl _) k os
  generalize Go.Sort.grow (w.drewN k) os = w1 at *
  go_wp2
  go_ret
  exact ⟨rfl, hb⟩

theorem ret_self (a : List UInt8) : Ending.returned (.bool (a == a)) = .returned (.bool true) := by simp

set_option maxHeartbeats 1000000 in
theorem name_walk (n : Int) (w : World) (h0 : -9223372036854775808 ≤ n) (h1 : n ≤ 9223372036854775807) (htab : Lib.TabIs Ybad.prog w powName .u64 Lib.pow10Tab) :
    Calls Ybad.prog 5 #[.int .i64 n] w fun e w' => e = .returned (.bool true) ∧ Below w.heap.size w w' := by
  have HT : Hid _ := htab
  clear htab
  by_cases hn1 : n = 1
  · subst hn1
    go_enter Ybad.func5, Ybad.ntmps5
    go_wp2_with (go_at_call 10; refine (lvl_one _).mono ?_; rintro e w1 ⟨rfl, rfl⟩)
    go_ret
    exact ⟨rfl, Below.refl _ _⟩
  by_cases hn2 : n = 2
  · subst hn2
    go_enter Ybad.func5, Ybad.ntmps5
    go_wp2_with (go_at_call 10; refine (lvl_two _).mono ?_; rintro e w1 ⟨rfl, rfl⟩)
    go_ret
    exact ⟨rfl, Below.refl _ _⟩
  have e1 : (n == 1) = false := by simpa using hn1
  have e2 : (n == 2) = false := by simpa using hn2
  have hl := Lib.itoa_length_le n h0 h1
  clear hn1 hn2
  go_enter Ybad.func5, Ybad.ntmps5
  go_wp2_with (go_at_call 10; refine (lvl_any n _ h0 h1 e1 e2 HT.out).mono ?_; rintro e w1 ⟨rfl, hb1⟩)
  refine (dec_any n _ h0 h1).mono ?_
  rintro e w2 ⟨rfl, hb2⟩
  go_wp2
  go_ret
  refine ⟨?_, hb1.trans (hb2.mono hb1.size)⟩
  exact ret_self _

set_option maxHeartbeats 1000000 in
theorem small_walk (x : Int) (w : World) (h0 : 0 ≤ x) (h1 : x ≤ 255) (htab : Lib.TabIs Ybad.prog w powName .u64 Lib.pow10Tab) :
    Calls Ybad.prog 6 #[.int .u8 x] w fun e w' => e = .returned (.bool true) ∧ Below w.heap.size w w' := by
  have HT : Hid _ := htab
  clear htab
  by_cases r3 : x % 6 = 3
  · go_enter Ybad.func6, Ybad.ntmps6
    go_wp2_with (go_at_call 10; refine (lvl_one _).mono ?_; rintro e w1 ⟨rfl, rfl⟩)
    go_ret
    exact ⟨rfl, Below.refl _ _⟩
  by_cases r4 : x % 6 = 4
  · go_enter Ybad.func6, Ybad.ntmps6
    go_wp2_with (go_at_call 10; refine (lvl_two _).mono ?_; rintro e w1 ⟨rfl, rfl⟩)
    go_ret
    exact ⟨rfl, Below.refl _ _⟩
  obtain ⟨n, hn⟩ : ∃ n : Int, x % 6 - 2 = n := ⟨_, rfl⟩
  have hb0 : -2 ≤ n := by omega
  have hb1 : n ≤ 3 := by omega
  have e1 : (n == 1) = false := by simp; omega
  have e2 : (n == 2) = false := by simp; omega
  have hl := Lib.itoa_length_le n (by omega) (by omega)
  clear r3 r4
  go_enter Ybad.func6, Ybad.ntmps6
  go_wp2_with (go_at_call 10; refine (lvl_any n _ (by omega) (by omega) e1 e2 HT.out).mono ?_; rintro e w1 ⟨rfl, hb1⟩)
  refine (dec_any n _ (by omega) (by omega)).mono ?_
  rintro e w2 ⟨rfl, hb2⟩
  go_wp2
  go_ret
  refine ⟨?_, hb1.trans (hb2.mono hb1.size)⟩
  exact ret_self _
end Go.Proofs.YbulkoeuDoor
