/-
  OWN WORK (seat b0735a). LawS0735BModel: the walk, and the row (the frame is the kit's shell, turned to 'Below').
-/
import Derived.Test.YbulkoeuUnq
import Derived.ProofKit
import Derived.OpenShut
import Derived.ShutString
import Derived.ChangeOld
import Derived.Below
namespace Go.Proofs.Ybulkoeu.lawS0735BModel
open Go.ChangeShapes Go.WideShapes Go.ChangeAt Go.RowKit
open Go.ChangeMaps (open_string shut_string)
set_option linter.unusedVariables false

theorem own : ownKnob Yba.prog.godebug = none := by kernel_rfl

theorem data_append (a : ByteArray) (l : List UInt8) : ((a ++ (⟨l.toArray⟩ : ByteArray)).data.toList) = a.data.toList ++ l := by
  simp [ByteArray.data_append]

theorem ret_beq {a b : List UInt8} (h : a = b) : Ending.returned (.bool (a == b)) = .returned (.bool true) := by
  subst h; simp

set_option maxHeartbeats 1000000 in
theorem walk (a0 : ByteArray) (w0 : a0.size ≤ maxLen) (w : World) :
    Calls Yba.prog 3 #[.string a0] w fun e w' => e = .returned (.bool true) ∧ Below w.heap.size w w' := by
  by_cases hlen : a0.size ≤ 1024
  · cases hop : opnS false a0.data.toList
    · have HO : Hid _ := hop
      clear hop
      go_enter Yba.func3, Yba.ntmps3
      go_wp2_with (go_at_call 5; refine (model_any a0 _ hlen).mono ?_; rw [HO.out]; rintro e w1 ⟨rfl, hb1⟩)
      refine (unq_any a0 _ (by omega) HO.out).mono ?_
      rintro e w2 ⟨rfl, hb2⟩
      go_wp2
      go_ret
      exact ⟨by simp, hb1.trans (hb2.mono hb1.size)⟩
    · have HM : Hid _ := model_open _ hop
      have hul : (unqS false a0.data.toList).length ≤ a0.size := by have := unqS_le a0.data.toList false; simpa using this
      have HO : Hid _ := hop
      clear hop
      go_enter Yba.func3, Yba.ntmps3
      go_wp2_with (go_at_call 5; refine (model_any a0 _ hlen).mono ?_; rw [HO.out]; rintro e w1 ⟨rfl, hb1⟩)
      refine (unq_any _ _ ?_ ?_).mono ?_
      · rw [ByteArray.size_append]; show a0.size + 1 ≤ 4096; omega
      · rw [data_append a0 [120]]; exact HM.out.1
      rintro e w2 ⟨rfl, hb2⟩
      rw [data_append a0 [120], HM.out.2]
      go_wp2
      go_ret
      refine ⟨?_, hb1.trans (hb2.mono hb1.size)⟩
      exact ret_beq (by rw [ByteArray.toList_eq, data_append _ [120]])
  · go_enter Yba.func3, Yba.ntmps3
    go_wp2
    go_ret
    exact ⟨rfl, Below.refl _ _⟩

set_option maxRecDepth 100000 in
theorem lifted (os : Os) (started : os.Started) (H : Type) (enc : TypeId × Value → H) :
    ReturnsInHanded {} Yba.checked os 3 .any (Rows.lawS0735BModelSpec.pre6 enc Yba.prog Yba.f3 Rows.lawS0735BModelRow.domain false) (Rows.lawS0735BModelSpec.post enc Yba.prog Yba.f3 false true false false) := by
  refine returnsInHanded_of_change (C := Yba.checked) own started (by kernel_rfl) Yba.func3
    (ChangeSpec.witness6 (enc := enc) (C := Yba.checked) false ⟨#[], #[.string ByteArray.empty], []⟩ 8 (by kernel_rfl) (by kernel_rfl) (by kernel_rfl) (by kernel_rfl)) ?_
  intro W base args ds gs before hval0 hW hcnd _
  have hval : ∀ (j : Nat) t v, Yba.f3.params[j]? = some t → args[j]? = some v → Value.okWide Yba.prog W .any base t v := hval0
  have hW' := hW
  obtain ⟨p, q, hA0, hV, rfl, hfz, hnd⟩ := hW
  have hA : DataW.TrodAll enc Yba.prog W 0 (fun _ => true) true Yba.f3.params.toList args.toList ds p := hA0
  rw [Yba.params3] at hA hval
  obtain ⟨v0, vs0, d0, ds0, p0, q0, hargs, rfl, rfl, h0, r0⟩ := trodAll_cons hA
  obtain ⟨rfl, rfl, rfl⟩ := trodAll_nil r0
  obtain rfl : args = #[v0] := by cases args; simp_all
  obtain ⟨rfl, rfl⟩ := trodVars_none hV
  obtain ⟨a0, rfl, rfl, rfl, w0⟩ := open_string Yba.underlying9 (hval 0 9 v0 rfl rfl) h0
  clear hA0 hval0
  refine (walk a0 w0 W).mono fun e W' ⟨he, bel⟩ => ?_
  subst he
  exact ⟨_, rfl, _, _, _, [], _, [], hW', trodAll_mk1 (shut_bool Yba.underlying4 _), (trodAll_cons_mk (shut_string Yba.underlying9 w0) trodAll_mk0), rfl, bel.frame _, fun h => by cases h⟩

theorem over : Rows.lawS0735BModelRow.holds Yba.pinned (OpenSpec.ofChange Rows.lawS0735BModelSpec) :=
  OpenClaim.holds_of_wide 3 Yba.f3 rfl rfl rfl rfl rfl rfl rfl ⟨rfl, rfl, rfl, rfl, rfl⟩ rfl rfl rfl rfl rfl (by kernel_rfl) Yba.func3 (by kernel_rfl)
    (of_decide_eq_true (by kernel_rfl)) (by unfold Func.isWrapper; first | (rw [if_pos (by decide +kernel)]; kernel_rfl) | (rw [if_neg (by decide +kernel)]; exact ⟨rfl, rfl⟩))
    (fun os started H enc _ => lifted os started H enc)

/-- THE STATEMENT. -/
theorem proved : Rows.LawS0735BModelSaid := over
end Go.Proofs.Ybulkoeu.lawS0735BModel
