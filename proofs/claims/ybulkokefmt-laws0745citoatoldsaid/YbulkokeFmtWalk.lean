/-
  OWN WORK (seat b0745aF). The walks of fmt.Errorf at parseYear's format, of parseYear, of the law's model and of the two laws.
-/
import Derived.Test.YbulkokeFmtShelf
import Derived.Test.YbulkokeFmtPlain
import Derived.WalkKit
import Derived.WalkSpells
import Derived.BigCall
import Derived.Stop.CallBack
import Derived.Stop.IfaceNil
namespace Go.Proofs.YbulkokeFmt
open Go.RowKit Go.Extern.Stop Go.Stop Go.Extern

/-- parseYear's format. -/
abbrev yearFmt : ByteArray := ⟨#[37, 113, 32, 105, 115, 32, 110, 111, 32, 121, 101, 97, 114, 32, 102, 114, 111, 109, 32, 48, 32, 116, 111, 32, 37, 100]⟩

theorem call13 (args : Array Value) (w : World) : (callFunc 13 args).run Ybaf.prog w = ((FmtStop.errorf #[9, 33] #[23] args).run Ybaf.prog w).andThen fun v w' => .ok (.value v) w' :=
  run_callFunc_extern Ybaf.func13 (by kernel_rfl) (by kernel_rfl) (by kernel_rfl) (by kernel_rfl) args w
theorem fguard (name : String) (w : World) : (FmtStop.guard name).run Ybaf.prog w = .ok () w := by kernel_rfl
theorem fmt0 : FmtStop.printed? ⟨#[37, 113, 32, 105, 115, 32, 110, 111, 32, 121, 101, 97, 114, 32, 102, 114, 111, 109, 32, 48, 32, 116, 111, 32, 37, 100]⟩ 2 = some [(0, 113, false), (1, 100, false)] := by kernel_rfl
theorem fmt0r (w : World) : (FmtDoors.printed ⟨#[37, 113, 32, 105, 115, 32, 110, 111, 32, 121, 101, 97, 114, 32, 102, 114, 111, 109, 32, 48, 32, 116, 111, 32, 37, 100]⟩ 2).run Ybaf.prog w = .ok [(0, 113, false), (1, 100, false)] w := by kernel_rfl
def shape9 : List UInt8 := [12, 6, 0, 0, 0, 0, 0, 0, 0, 115, 116, 114, 105, 110, 103]
def shape3 : List UInt8 := [5, 3, 0, 0, 0, 0, 0, 0, 0, 105, 110, 116]
theorem op9_113w (name : String) (x : ByteArray) (w : World) : (FmtStop.operand name true 113 false (.iface 9 (.string x))).run Ybaf.prog w = .ok (shape9, FmtStop.pack x.data.toList) w := by kernel_rfl
theorem op3_100w (name : String) (x : Int) (w : World) : (FmtStop.operand name true 100 false (.iface 3 (.int .i64 x))).run Ybaf.prog w = .ok (shape3, Go.Extern.Stop.digits 8 (x % 2 ^ 64).toNat) w := by kernel_rfl
theorem ptr44 (w : World) : (FmtStop.ptrTo "errors.errorString").run Ybaf.prog w = .ok 44 w := by kernel_rfl
theorem elem44 (w : World) : (elemOf 44).run Ybaf.prog w = .ok 46 w := by kernel_rfl
attribute [local go_sem] ptr44 elem44 call13 fguard fmt0 fmt0r op9_113w op3_100w

set_option maxHeartbeats 1000000 in
theorem errorf_any (s : ByteArray) (blk : Nat) (w : World) (hc0 : w.cell? ⟨blk, 0, none⟩ = some (.iface 9 (.string s))) (hc1 : w.cell? ⟨blk, 1, none⟩ = some (.iface 3 (.int .i64 10001))) :
    Calls Ybaf.prog 9 #[.string yearFmt, .slice (some ⟨blk, 0, none⟩) 2 2] w fun e w' => (∃ T N, e = .returned (.iface T (.pointer (some ⟨N, 0, none⟩)))) ∧ Below w.heap.size w w' := by
  go_enter Ybaf.func9, Ybaf.ntmps9
  go_wp2
  go_ret
  exact ⟨⟨_, _, rfl⟩, ((Below.refl _ w).alloc (Nat.le_refl _) _).drew⟩

/-- strconv.Atoi where it reads, old memory untouched. -/
theorem atoi_ok (s : ByteArray) (v : Int) (w : World) (hs : s.size ≤ 281474976710656) (h : Lib.atoiAll s.data.toList = .ok v) :
    Calls Ybaf.prog 8 #[.string s] w fun e w' => e = .returned (.tuple #[.int .i64 v, .nilIface]) ∧ Below w.heap.size w w' := by
  refine (Ybaf.strconv_Atoi_ok s (by omega) v h w).mono ?_
  rintro e w1 ⟨he, hw⟩
  refine ⟨he, ?_⟩
  rcases hw with rfl | ⟨t, rfl⟩
  · exact Below.refl _ _
  · exact ⟨rfl, rfl, rfl, by rw [Lib.bytesWorld_size]; omega, fun j hj => Lib.bytesWorld_at_old w 5 t j hj⟩

/-- parseYear at a text that Atoi reads within 0 .. 10001. -/
theorem parse_good (s : ByteArray) (v : Int) (w : World) (hs : s.size ≤ 281474976710656) (h : Lib.atoiAll s.data.toList = .ok v) (h0 : 0 ≤ v) (h1 : v ≤ 10001) :
    Calls Ybaf.prog 5 #[.string s] w fun e w' => e = .returned (.tuple #[.int .i64 v, .nilIface]) ∧ Below w.heap.size w w' := by
  have H : Hid _ := h
  clear h
  go_enter Ybaf.func5, Ybaf.ntmps5
  go_wp2_with (go_at_call 8; refine (atoi_ok s v _ hs H.out).mono ?_; rintro e w1 ⟨rfl, hb⟩)
  go_ret2
  exact ⟨rfl, hb⟩

/-- parseYear at a text that Atoi reads below 0. -/
theorem parse_below (s : ByteArray) (v : Int) (w : World) (hs : s.size ≤ 281474976710656) (h : Lib.atoiAll s.data.toList = .ok v) (hv : v < 0) :
    Calls Ybaf.prog 5 #[.string s] w fun e w' => (∃ T N, e = .returned (.tuple #[.int .i64 0, .iface T (.pointer (some ⟨N, 0, none⟩))])) ∧ Below w.heap.size w w' := by
  have H : Hid _ := h
  clear h
  go_enter Ybaf.func5, Ybaf.ntmps5
  go_wp2_with (go_at_call 8; refine (atoi_ok s v _ hs H.out).mono ?_; rintro e w1 ⟨rfl, hb⟩)
  refine (errorf_any s w1.heap.size _ ?_ ?_).mono ?_
  · simp
  · simp
  rintro e w2 ⟨⟨T, N, rfl⟩, hb2⟩
  go_wp2
  go_ret2
  exact ⟨⟨T, N, rfl⟩, (hb.alloc hb.size _).trans (hb2.mono (by have := hb.size; simp; omega))⟩

/-- parseYear at a text that Atoi reads beyond 10001. -/
theorem parse_beyond (s : ByteArray) (v : Int) (w : World) (hs : s.size ≤ 281474976710656) (h : Lib.atoiAll s.data.toList = .ok v) (hv : 10001 < v) :
    Calls Ybaf.prog 5 #[.string s] w fun e w' => (∃ T N, e = .returned (.tuple #[.int .i64 0, .iface T (.pointer (some ⟨N, 0, none⟩))])) ∧ Below w.heap.size w w' := by
  have H : Hid _ := h
  clear h
  have hv0 : ¬ v < 0 := by omega
  go_enter Ybaf.func5, Ybaf.ntmps5
  go_wp2_with (go_at_call 8; refine (atoi_ok s v _ hs H.out).mono ?_; rintro e w1 ⟨rfl, hb⟩)
  refine (errorf_any s w1.heap.size _ ?_ ?_).mono ?_
  · simp
  · simp
  rintro e w2 ⟨⟨T, N, rfl⟩, hb2⟩
  go_wp2
  go_ret2
  exact ⟨⟨T, N, rfl⟩, (hb.alloc hb.size _).trans (hb2.mono (by have := hb.size; simp; omega))⟩

/-- parseYear at a text that Atoi does not read. -/
theorem parse_fails (s : ByteArray) (w : World) (hs : s.size ≤ 281474976710656) (h : ∀ v, Lib.atoiAll s.data.toList ≠ .ok v) (ev0 ev1 : Value) (hv0 : w.cell? ⟨0, 0, none⟩ = some ev0) (hev0 : ∃ te pe, ev0 = .iface te pe)
    (hv1 : w.cell? ⟨1, 0, none⟩ = some ev1) (hev1 : ∃ te pe, ev1 = .iface te pe) :
    Calls Ybaf.prog 5 #[.string s] w fun e w' => (∃ T N, e = .returned (.tuple #[.int .i64 0, .iface T (.pointer (some ⟨N, 0, none⟩))])) ∧ Below w.heap.size w w' := by
  have H : Hid ((∀ v, Lib.atoiAll s.data.toList ≠ .ok v) ∧ w.cell? ⟨0, 0, none⟩ = some ev0 ∧ (∃ te pe, ev0 = .iface te pe) ∧ w.cell? ⟨1, 0, none⟩ = some ev1 ∧ (∃ te pe, ev1 = .iface te pe)) := ⟨h, hv0, hev0, hv1, hev1⟩
  clear h hv0 hv1 hev0 hev1
  go_enter Ybaf.func5, Ybaf.ntmps5
  go_wp2_with (go_at_call 8; refine (Ybaf.strconv_Atoi_fails s hs H.out.1 _ ev0 ev1 H.out.2.1 H.out.2.2.1 H.out.2.2.2.1 H.out.2.2.2.2).mono ?_; rintro e w1 ⟨n, N0, rfl, hb⟩)
  refine (errorf_any s w1.heap.size _ ?_ ?_).mono ?_
  · simp
  · simp
  rintro e w2 ⟨⟨T, N, rfl⟩, hb2⟩
  go_wp2
  go_ret2
  exact ⟨⟨T, N, rfl⟩, (hb.alloc hb.size _).trans (hb2.mono (by have := hb.size; simp; omega))⟩

end Go.Proofs.YbulkokeFmt
