/-
  OWN WORK (seat b0745aF). LawS0745CModel: the told and tied card (the frame after the kit's worked example 'port').
-/
import Derived.Test.YbulkokeFmtLaid
import Derived.Test.YbulkokeFmtTie
import Derived.Test.YbulkokeFmtCards
import Derived.SevenTiedAt
namespace Go.Proofs.YbulkokeFmt.lawS0745CModel
open Go.ChangeShapes Go.WideShapes Go.ChangeAt Go.RowKit
open Go.ChangeMaps (open_string shut_string)
open Go.Extern.Stop Go.Stop Go.Extern
set_option linter.unusedVariables false

theorem witness_row (os : Os) {H : Type} (enc : TypeId × Value → H) :
    (OpenSpec.ofChange Rows.lawS0745CModelSpec).preRow enc Ybaf.prog Ybaf.f3 Rows.lawS0745CModelRow.domain false Rows.lawS0745CModelRow.laid ((World.doorLaid Ybaf.prog 62 os).forCall (fun _ _ => 0) ⟨#[], #[.string ⟨#[]⟩], []⟩).memory #[.string ⟨#[]⟩] := by
  have hw : (DataW.whole enc Ybaf.prog ((World.doorLaid Ybaf.prog 62 os).forCall (fun _ _ => 0) ⟨#[], #[.string ⟨#[]⟩], []⟩).memory Ybaf.f3.params.toList (OpenSpec.ofChange Rows.lawS0745CModelSpec).vars false #[.string ⟨#[]⟩].toList 8).map (fun x => (x.1, x.2.1)) =
      some ([.lit (.string [])], []) := by kernel_rfl
  obtain ⟨⟨x1, x2, x3⟩, hx, hx1⟩ := Option.map_eq_some_iff.1 hw
  simp only [Prod.mk.injEq] at hx1
  obtain ⟨rfl, rfl⟩ := hx1
  exact OpenSpec.preRow_of_cond 8 hx (by kernel_rfl) (fun k hk => by cases hk) (by kernel_rfl) (door_met os _)

set_option maxRecDepth 100000 in
set_option maxHeartbeats 4000000 in
theorem lifted (os : Os) (started : os.Started) (H : Type) (enc : TypeId × Value → H) :
    ReturnsInTold none {} Ybaf.checked os 3 .any Input.okWide ((OpenSpec.ofChange Rows.lawS0745CModelSpec).preRow enc Ybaf.prog Ybaf.f3 Rows.lawS0745CModelRow.domain false Rows.lawS0745CModelRow.laid)
      (fun F => ((OpenSpec.ofChange Rows.lawS0745CModelSpec).at F).post enc Ybaf.prog Ybaf.f3 false true false false) (aloneAtReturn Ybaf.prog) nothingAlways := by
  refine returnsInTold_of_row (C := Ybaf.checked) (s := OpenSpec.ofChange Rows.lawS0745CModelSpec) (by kernel_rfl) own started (by kernel_rfl) Ybaf.func3
    (OpenSpec.witness_stopped_atRef (enc := enc) (C := Ybaf.checked) false (World.doorLaid Ybaf.prog 62 os) #[.string ⟨#[]⟩] rfl (by kernel_rfl) (by kernel_rfl) (by kernel_rfl) (witness_row os enc)) ?_
  intro F W base args ds gs before _ _ hval0 hW _ _ _ hL _
  have hval : ∀ (j : Nat) t v, Ybaf.f3.params[j]? = some t → args[j]? = some v → Value.okWide Ybaf.prog W .any base t v := hval0
  have hW' := hW
  obtain ⟨p, q, hA0, hV0, rfl, _, _⟩ := hW
  have hA : DataW.TrodAll enc Ybaf.prog W 0 (fun _ => true) true Ybaf.f3.params.toList args.toList ds p := hA0
  rw [Ybaf.params3] at hA hval
  obtain ⟨v0, d0, rfl, rfl, h0⟩ := trodAll_one hA
  obtain ⟨rfl, rfl⟩ := trodVars_none hV0
  obtain ⟨s, rfl, rfl, rfl, ws⟩ := open_string Ybaf.underlying9 (hval 0 9 v0 rfl rfl) h0
  clear hA0 hV0 hval0
  have hM := met_of hL
  have hS := sentinels_of hM
  refine (model_walk s W hS.1).mono fun e W' ⟨he, bel⟩ => ?_
  subst he
  exact ⟨_, rfl, _, _, _, [], _, [], hW', trodAll_mk1 (shut_bool Ybaf.underlying4 _), trodAll_mk1 (shut_string Ybaf.underlying9 ws), rfl, bel.frame _, fun h => by cases h⟩

theorem laidOut : laidOutB Ybaf.pinned.checked.prog = true := by kernel_rfl
theorem stops : Ybaf.pinned.checked.prog.stops = ["fmt.errorf"] := by kernel_rfl
theorem stopKnobs : Ybaf.pinned.checked.prog.stopKnobs = [] := by kernel_rfl
theorem quiet (os : Os) : Stop.quiet Ybaf.pinned.checked.prog os := by
  intro k hk
  rw [stopKnobs] at hk
  cases hk

/-- THE STATEMENT: the told and tied card. -/
theorem card : Rows.LawS0745CModelToldSaid :=
  Claim7.holds_of_told_tied_any_at .later 3 Ybaf.f3 "fmt.errorf" [] [] Rows.lawS0745CModelCard.stood.harness true false [.data, .data, .data, .sentinel, .sentinel] true (by kernel_rfl) rfl rfl rfl laidOut (by kernel_rfl) rfl ⟨rfl, rfl, rfl, rfl, rfl, rfl, rfl⟩ rfl rfl (by kernel_rfl) (by kernel_rfl) Ybaf.func3 (by kernel_rfl)
    (of_decide_eq_true (by kernel_rfl)) (by unfold Func.isWrapper; first | (rw [if_pos (by decide +kernel)]; kernel_rfl) | (rw [if_neg (by decide +kernel)]; exact ⟨rfl, rfl⟩)) stops.symm rfl stopKnobs.symm (by kernel_rfl)
    (by kernel_rfl) (by kernel_rfl) (by kernel_rfl) (by kernel_rfl) (by kernel_rfl) (by kernel_rfl) (by kernel_rfl) (by kernel_rfl) (by kernel_rfl) rfl (by kernel_rfl) rfl rfl
    rfl rfl
    rfl (by kernel_rfl) (by kernel_rfl) (by kernel_rfl) (by decide) (by kernel_rfl) lawS0745CModel_row_tie
    (OpenClaim.moreEntering_of (by kernel_rfl) (by kernel_rfl) (by kernel_rfl) (by kernel_rfl) (by kernel_rfl) (by kernel_rfl) (by kernel_rfl) (by kernel_rfl) (by kernel_rfl) (by kernel_rfl))
    ⟨_, WideRow.started_initial, quiet _⟩
    (fun os started _ H enc _ => lifted os started H enc)
end Go.Proofs.YbulkokeFmt.lawS0745CModel
