/-
  OWN WORK (seat b0735a). The walk of 'unquotePairs' at a text that leaves no backslash open: it returns unqS of it.
-/
import Derived.Test.YbulkoeuShelf
import Derived.Test.YbulkoeuModel
import Derived.BigCall
namespace Go.Proofs.Ybulkoeu
open Go.RowKit

theorem unq_end {l acc : List UInt8} {k : Nat} (hk : l.length ≤ k) (hu : acc ++ unqS false (l.drop k) = unqS false l) : acc = unqS false l := by
  rw [List.drop_eq_nil_of_le hk] at hu
  simpa [unqS] using hu

theorem unq_plain {l acc : List UInt8} {k : Nat} (hk : k < l.length) (hu : acc ++ unqS false (l.drop k) = unqS false l) (ho : opnS false (l.drop k) = false) (hb : l[k] ≠ 92) :
    (acc ++ [l[k]]) ++ unqS false (l.drop (k + 1)) = unqS false l ∧ opnS false (l.drop (k + 1)) = false := by
  rw [unq_false_no l k hk hb] at hu; rw [opn_false_no l k hk hb] at ho
  exact ⟨by simpa using hu, ho⟩

theorem unq_pair_lt {l : List UInt8} {k : Nat} (hk : k < l.length) (ho : opnS false (l.drop k) = false) (hb : l[k] = 92) : k + 1 < l.length := by
  rw [opn_false_yes l k hk hb] at ho
  exact opn_true_lt l (k + 1) ho

theorem unq_pair {l acc : List UInt8} {k : Nat} (hk : k + 1 < l.length) (hu : acc ++ unqS false (l.drop k) = unqS false l) (ho : opnS false (l.drop k) = false) (hb : l[k] = 92) :
    (acc ++ [l[k + 1]]) ++ unqS false (l.drop (k + 2)) = unqS false l ∧ opnS false (l.drop (k + 2)) = false := by
  rw [unq_false_yes l k (by omega) hb, unq_true l (k + 1) hk] at hu; rw [opn_false_yes l k (by omega) hb, opn_true l (k + 1) hk] at ho
  exact ⟨by simpa using hu, ho⟩

set_option maxHeartbeats 1000000 in
set_option maxRecDepth 1000000 in
theorem unq_any (s : ByteArray) (w : World) (hs : s.size ≤ 4096) (hop : opnS false s.data.toList = false) :
    Calls Yba.prog 6 #[.string s] w fun e w' => e = .returned (.string ⟨(unqS false s.data.toList).toArray⟩) ∧ Below w.heap.size w w' := by
  have HO : Hid _ := hop
  clear hop
  go_enter Yba.func6, Yba.ntmps6
  go_wp2_with (go_at_call 7; refine (Yba.Builder_Grow_fresh w.heap.size w.heap.size s.size _ (Nat.le_refl _) ?_ ?_ ?_).mono ?_)
  · exact heap_alloc_new w _
  · simp
  · omega
  rintro e w0 ⟨rfl, hI0, hb0⟩
  have hB0 : Below w.heap.size w w0 := ((Below.refl _ w).alloc (Nat.le_refl _) _).trans hb0
  clear hb0
  go_wp2
  go_loopw [4] (fun i wr => ∃ (k : Nat) (acc : List UInt8), k ≤ s.size ∧ i = .int .i64 k ∧ Lib.IsBuilderF 31 5 w.heap.size w.heap.size (Lib.byteCells acc) wr ∧ Below w.heap.size w wr ∧
      Hid (acc ++ unqS false (s.data.toList.drop k) = unqS false s.data.toList) ∧ Hid (opnS false (s.data.toList.drop k) = false) ∧ acc.length ≤ k) (fun i _ => s.size - (intOf i).toNat)
  case atStart => exact ⟨0, [], Nat.zero_le _, rfl, Or.inr (Lib.BuilderAtF.of hI0), hB0, rfl, HO.out, Nat.le_refl _⟩
  case round =>
    obtain ⟨k, acc, hk, rfl, hI, hb, hu, ho, hal⟩ := hrel
    clear hI0 hB0
    have hbz : w.heap.size ≤ wr.heap.size := hb.size
    by_cases hlt : k < s.size
    · have hsl : k < s.data.toList.length := by simpa using hlt
      by_cases h92 : s[k] = 92
      · have hlt2 : k + 1 < s.size := by simpa using unq_pair_lt hsl ho.out h92
        have HR : Hid _ := unq_pair (by simpa using hlt2) hu.out ho.out h92
        have hne : ((s[k].toNat : Int) == 92) = true := by rw [byte_eq]; simpa using h92
        clear h92
        go_wp2_with (go_at_call 8; refine (Yba.Builder_WriteByte_k w.heap.size w.heap.size _ (s[k + 1].toNat : Int) _ hI ?_ hbz).mono ?_)
        · rw [Lib.byteCells_length]; omega
        rintro e w1 ⟨rfl, h1, b1, k1⟩
        go_wp2
        go_roundw
        case rel => exact ⟨k + 2, acc ++ [s[k + 1]], by omega, by go_num, by rw [Lib.byteCells_append]; exact Or.inr h1, hb.trans b1, HR.out.1, HR.out.2, by simp; omega⟩
        case measure => simp [intOf]; omega
      · have HR : Hid _ := unq_plain hsl hu.out ho.out h92
        have hne : ((s[k].toNat : Int) == 92) = false := by rw [byte_eq]; simpa using h92
        clear h92
        go_wp2_with (go_at_call 8; refine (Yba.Builder_WriteByte_k w.heap.size w.heap.size _ (s[k].toNat : Int) _ hI ?_ hbz).mono ?_)
        · rw [Lib.byteCells_length]; omega
        rintro e w1 ⟨rfl, h1, b1, k1⟩
        go_wp2
        go_roundw
        case rel => exact ⟨k + 1, acc ++ [s[k]], by omega, by go_num, by rw [Lib.byteCells_append]; exact Or.inr h1, hb.trans b1, HR.out.1, HR.out.2, by simp; omega⟩
        case measure => simp [intOf]; omega
    · have HE : Hid _ := unq_end (l := s.data.toList) (by simpa using hlt) hu.out
      go_wp2_with (go_at_call 9; refine (Yba.Builder_String_any_k w.heap.size w.heap.size acc _ hI hbz).mono ?_)
      rintro e w1 ⟨rfl, _, b1, _⟩
      go_wp2
      go_ret
      exact ⟨by rw [← HE.out]; rfl, hb.trans b1⟩

end Go.Proofs.Ybulkoeu
