/-
  OWN WORK (seat b0745aF). What the listed variables give the walks; a start that meets the condition.
-/
import Derived.Test.YbulkokeFmtLawWalks
import Derived.ProofKit
import Derived.LaidMore
import Derived.OpenShut
import Derived.ShutString
import Derived.Stop.Joined
import Derived.Stop.LaidErr
import Derived.Stop.JoinedTold
import Derived.Deep.DeepWitnessRef
import Derived.ChangeOld
import Derived.Below
namespace Go.Proofs.YbulkokeFmt
open Go.ChangeShapes Go.WideShapes Go.ChangeAt Go.RowKit
set_option linter.unusedVariables false

theorem own : ownKnob Ybaf.prog.godebug = none := by kernel_rfl
theorem gPow : Ybaf.prog.globalNamed powName = some 2 := by kernel_rfl
theorem tPow : (Ybaf.prog.globals[2]?).map (·.type) = some 61 := by kernel_rfl
theorem pow_datum : (Rows.laid_internal_strconv_uint64pow10 : DataW Unit) = Lib.tabData .u64 Lib.pow10Tab := by kernel_rfl
/-- The sentinels' dynamic type's name, off the given datum. -/
def errName : String := match (Rows.laid_strconv_ErrRange : DataW Unit) with
  | .iface n _ => n
  | _ => default
theorem row44 (u : TypeId) (h : Ybaf.prog.typeName? 3 u = some errName) : u = 44 :=
  typeName_ptr_named (nm := "errors.errorString") (by kernel_rfl) (by kernel_rfl) (by decide) u (h.trans (congrArg some (by decide +kernel)))

/-- The door's own heap meets the condition. -/
theorem door_met (os : Os) (args : Array Value) : laidMetH Ybaf.prog Rows.lawS0745CItoaRow.laid ((World.doorLaid Ybaf.prog 62 os).forCall (fun _ _ => 0) ⟨#[], args, []⟩).memory :=
  laidMetH_of_parts3 (fuel := 8) (laidMet_of_run' 8 (by kernel_rfl) (by kernel_rfl)) (by kernel_rfl) (by kernel_rfl)

theorem met_of {W : World} (h : laidMetH Ybaf.prog Rows.lawS0745CItoaRow.laid W) : laidMet Ybaf.prog Rows.lawS0745CItoaRow.laid W := by
  rw [MakeChecks.laidMetH_plain _ _ _ (by kernel_rfl)] at h
  exact h

/-- The table of the powers of ten. -/
theorem pow_of {W : World} (h : laidMet Ybaf.prog Rows.lawS0745CItoaRow.laid W) : Lib.TabIs Ybaf.prog W powName .u64 Lib.pow10Tab := by
  refine Lib.tabIs_of_head (n := 20) (rest := Rows.lawS0745CItoaRow.laid.tail.tail.tail) gPow tPow Ybaf.underlying61 Ybaf.underlying48 (by kernel_rfl) (by kernel_rfl) ?_
  rw [← pow_datum]
  exact h.tail.tail

/-- The two sentinels' cells. -/
theorem sentinels_of {W : World} (h : laidMet Ybaf.prog Rows.lawS0745CItoaRow.laid W) : Sentinels W ∧ 2 ≤ W.heap.size := by
  obtain ⟨a1, t1, hv1, hc1, _, _⟩ := laid_sentinel (g := 1) h.tail.tail.tail (by kernel_rfl) (by kernel_rfl) Ybaf.underlying23 row44 Ybaf.underlying44 Ybaf.underlying46 rfl rfl Ybaf.underlying9 (by kernel_rfl) (by kernel_rfl)
  obtain ⟨a0, t0, hv0, hc0, _, _⟩ := laid_sentinel (g := 0) h.tail.tail.tail.tail (by kernel_rfl) (by kernel_rfl) Ybaf.underlying23 row44 Ybaf.underlying44 Ybaf.underlying46 rfl rfl Ybaf.underlying9 (by kernel_rfl) (by kernel_rfl)
  have c0 := World.var?_cell (P := Ybaf.prog) (g := 0) (by kernel_rfl) hv0 0
  have c1 := World.var?_cell (P := Ybaf.prog) (g := 1) (by kernel_rfl) hv1 0
  simp at c0 c1
  refine ⟨⟨_, _, c0, ⟨_, _, rfl⟩, c1, ⟨_, _, rfl⟩⟩, ?_⟩
  have := World.block_lt_of_cell? W _ c1
  exact this

end Go.Proofs.YbulkokeFmt
