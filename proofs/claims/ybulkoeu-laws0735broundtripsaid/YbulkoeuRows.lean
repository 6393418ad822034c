/-
  No cell of these rows narrows 'for every input' (looked for: loops, veiled, ifaces, maps, wideKeys, modest, calm, conditions, laid).
  DERIVED. THE GIVEN ROWS OF THIS SEAT. 2 by the template 'for every input the law returns true; each argument reads behind the call as it read before'; 0 by the template 'total and deterministic' (their statements: YbulkoeuTotals.lean).
  GIVEN WITH THE SEED: the statements are not yours to turn. If you find one false, say at which input.
  Laid BY PROGRAM, IN A SANDBOX (cutbox-rows.mjs): the forced cells as the released guide's own fill.sh prints them over the translation 2b084715513d68f9… (all of the seat's roots in one cut). By AI agents, Wed Nov 11 2026. No macro, syntax, notation, axiom, sorry.
-/
import Derived.Test.YbulkoeuChecked
import GoSem.Claim
import GoSem.ClaimJoined
import GoSem.ClaimMapViews
import Derived.JoinedTies
import Derived.KernelRfl
namespace Go.Proofs.Ybulkoeu
/- THE CELL 'sum', in the pinned program and in every row, IS THE sha256 OF THE DUMP (.gsa) THAT YbulkoeuProg.lean LOADS. Nothing in Lean hashes anything: it is a label: what it is worth is what the hold of that sum in a sandbox is worth. -/
noncomputable def Yba.pinned : Pinned := { name := "ybulkoeu", sum := "2b084715513d68f9644384b02abd3da5b72b9be489772c9a009fb9de9d3a1de1", checked := Yba.checked }
namespace Rows
def none {H : Type} : Left H := { results := [], args := [] }

/-- 'epistle.LawS0735BModel': WHATEVER THE INPUT: true; the input reads as it did. -/
def lawS0735BModelSpec : ChangeSpec := { name := "lawS0735BModel", fn := fun _ => fun
  | [d] => { results := [.lit (.bool true)], args := [d] }
  | _ => none }
def lawS0735BModelRow : OpenClaim := { program := "ybulkoeu", sum := "2b084715513d68f9644384b02abd3da5b72b9be489772c9a009fb9de9d3a1de1", func := "example.com/epistle/epistle.LawS0735BModel", spec := "lawS0735BModel", inPlace := ["internal/abi.NoEscape", "internal/bytealg.MakeNoZero"], apart := false }
def LawS0735BModelSaid : Prop := lawS0735BModelRow.holds Yba.pinned (OpenSpec.ofChange lawS0735BModelSpec)

/-- ITS FALSE NEIGHBOUR: 'it returns false'. Refute it at one input. -/
def lawS0735BModelWrong : ChangeSpec := { name := "lawS0735BModel", fn := fun _ => fun
  | [d] => { results := [.lit (.bool false)], args := [d] }
  | _ => none }
def LawS0735BModelWrongFalsely : Prop := lawS0735BModelRow.holds Yba.pinned (OpenSpec.ofChange lawS0735BModelWrong)

/-- 'epistle.LawS0735BRoundTrip': WHATEVER THE INPUT: true; the input reads as it did. -/
def lawS0735BRoundTripSpec : ChangeSpec := { name := "lawS0735BRoundTrip", fn := fun _ => fun
  | [d1, d2] => { results := [.lit (.bool true)], args := [d1, d2] }
  | _ => none }
def lawS0735BRoundTripRow : OpenClaim := { program := "ybulkoeu", sum := "2b084715513d68f9644384b02abd3da5b72b9be489772c9a009fb9de9d3a1de1", func := "example.com/epistle/epistle.LawS0735BRoundTrip", spec := "lawS0735BRoundTrip", inPlace := ["internal/abi.NoEscape", "internal/bytealg.MakeNoZero"], apart := false }
def LawS0735BRoundTripSaid : Prop := lawS0735BRoundTripRow.holds Yba.pinned (OpenSpec.ofChange lawS0735BRoundTripSpec)

/-- ITS FALSE NEIGHBOUR: 'it returns false'. Refute it at one input. -/
def lawS0735BRoundTripWrong : ChangeSpec := { name := "lawS0735BRoundTrip", fn := fun _ => fun
  | [d1, d2] => { results := [.lit (.bool false)], args := [d1, d2] }
  | _ => none }
def LawS0735BRoundTripWrongFalsely : Prop := lawS0735BRoundTripRow.holds Yba.pinned (OpenSpec.ofChange lawS0735BRoundTripWrong)

end Rows
end Go.Proofs.Ybulkoeu
