/-
  OWN WORK (seat b0735aD). The rows of the two laws (the frame after the kit's worked example 'mapy'), and the cards.
-/
import Derived.Test.YbulkoeuDoorWalk
import Derived.Test.YbulkoeuDoorTie
import Derived.Test.YbulkoeuDoorCards
import Derived.ProofKit
import Derived.LaidMore
import Derived.OpenShut
import Derived.Stop.Joined
import Derived.ChangeOld
import Derived.Below
import Derived.SevenTiedAt
namespace Go.Proofs.YbulkoeuDoor
open Go.ChangeShapes Go.WideShapes Go.ChangeAt Go.RowKit
set_option linter.unusedVariables false

theorem own : ownKnob Ybad.prog.godebug = none := by kernel_rfl
theorem gPow : Ybad.prog.globalNamed powName = some 0 := by kernel_rfl
theorem tPow : (Ybad.prog.globals[0]?).map (·.type) = some 108 := by kernel_rfl
theorem same_laid : Rows.lawS0735CSmallRow.laid = Rows.lawS0735CNameRow.laid := rfl
theorem pow_datum : (Rows.laid_internal_strconv_uint64pow10 : DataW Unit) = Lib.tabData .u64 Lib.pow10Tab := by kernel_rfl

/-- The door's own heap meets the condition. -/
theorem door_met (os : Os) (args : Array Value) : laidMetH Ybad.prog Rows.lawS0735CNameRow.laid ((World.doorLaid Ybad.prog 400 os).forCall (fun _ _ => 0) ⟨#[], args, []⟩).memory :=
  laidMetH_of_parts3 (fuel := 8) (laidMet_of_run' 8 (by kernel_rfl) (by kernel_rfl)) (by kernel_rfl) (by kernel_rfl)

/-- What the condition gives the walks: the table of the powers of ten. -/
theorem of_laid {W : World} (h : laidMetH Ybad.prog Rows.lawS0735CNameRow.laid W) : Lib.TabIs Ybad.prog W powName .u64 Lib.pow10Tab := by
  rw [MakeChecks.laidMetH_plain _ _ _ (by kernel_rfl)] at h
  refine Lib.tabIs_of_head (n := 20) (rest := Rows.lawS0735CNameRow.laid.tail) gPow tPow Ybad.underlying108 Ybad.underlying50 (by kernel_rfl) (by kernel_rfl) ?_
  rw [← pow_datum]
  exact h

end Go.Proofs.YbulkoeuDoor
