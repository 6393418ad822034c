/-
  DERIVED. GIVEN WITH THE SEED: THE CARDS: each row of YbulkoeuDoorRows.lean that lists a variable, with what it lists TIED to the program's text (the seventh form; the later family's looks); each row that meets fmt, with fmt's text TOLD by the authors' own Lean function (tested against real Go, not proved from fmt's source: count such statements apart). THE CARD IS WHAT COUNTS. Prove the row's statement (the work); the ties are given (YbulkoeuDoorTie.lean); close each card by the builder's one call (the guide's Derived/Test/ToyasCard.lean, 'card_holds'). Laid BY PROGRAM, IN A SANDBOX (cutbox-door.mjs). By AI agents, Wed Nov 11 2026. No macro, syntax, notation, axiom, sorry.
-/
import Derived.Test.YbulkoeuDoorRows
import GoSem.ClaimSeven
namespace Go.Proofs.YbulkoeuDoor
namespace Rows

/-- THE TIED CARD OF 'epistle.LawS0735CName'. -/
def lawS0735CNameCard : Claim7 := { stood := { row := lawS0735CNameRow, standIns := [], harness := (true, "4ddc01e95e627895eacd7607f22bdc51839f8437edfeee49d8f95bd075c56cda"), looks := true }, kinds := [], alts := [], laidByText := true, laidKinds := [.data, .data, .data], laidTests := true, laidLooks := .later }
def LawS0735CNameCardSaid : Prop := Claim7.holds Ybad.pinned (.plain (OpenSpec.ofChange lawS0735CNameSpec)) lawS0735CNameCard

/-- THE TIED CARD OF 'epistle.LawS0735CSmall'. -/
def lawS0735CSmallCard : Claim7 := { stood := { row := lawS0735CSmallRow, standIns := [], harness := (true, "4ddc01e95e627895eacd7607f22bdc51839f8437edfeee49d8f95bd075c56cda"), looks := true }, kinds := [], alts := [], laidByText := true, laidKinds := [.data, .data, .data], laidTests := true, laidLooks := .later }
def LawS0735CSmallCardSaid : Prop := Claim7.holds Ybad.pinned (.plain (OpenSpec.ofChange lawS0735CSmallSpec)) lawS0735CSmallCard
end Rows
end Go.Proofs.YbulkoeuDoor
