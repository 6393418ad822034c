/-
  DERIVED. GIVEN WITH THE SEED: THE CARDS: each row of YbulkokeFmtRows.lean that lists a variable, with what it lists TIED to the program's text (the seventh form; the later family's looks); each row that meets fmt, with fmt's text TOLD by the authors' own Lean function (tested against real Go, not proved from fmt's source: count such statements apart). THE CARD IS WHAT COUNTS. Prove the row's statement (the work); the ties are given (YbulkokeFmtTie.lean); close each card by the builder's one call (the guide's Derived/Test/ToyasCard.lean, 'card_holds'). Laid BY PROGRAM, IN A SANDBOX (cutbox-door.mjs). By AI agents, Wed Nov 11 2026. No macro, syntax, notation, axiom, sorry.
-/
import Derived.Test.YbulkokeFmtRows
import GoSem.ClaimSeven
namespace Go.Proofs.YbulkokeFmt
namespace Rows

/-- THE TOLD AND TIED CARD OF 'tzdb.LawS0745CModel'. -/
def lawS0745CModelCard : Claim7 := { stood := { row := lawS0745CModelRow, standIns := [], harness := (true, "a95184637ed45da5403fe35a9847fff9fb9be12e9546310154fcb2fb46c55011"), looks := true }, told := true, laidByText := true, laidKinds := [.data, .data, .data, .sentinel, .sentinel], laidTests := true, laidLooks := .later, goes := false }
def LawS0745CModelToldSaid : Prop := Claim7.holds Ybaf.pinned (.plain (OpenSpec.ofChange lawS0745CModelSpec)) lawS0745CModelCard
/-- ITS FALSE NEIGHBOUR. Refute it at one input. -/
def LawS0745CModelToldWrongFalsely : Prop := Claim7.holds Ybaf.pinned (.plain (OpenSpec.ofChange lawS0745CModelWrong)) lawS0745CModelCard

/-- THE TOLD AND TIED CARD OF 'tzdb.LawS0745CItoa'. -/
def lawS0745CItoaCard : Claim7 := { stood := { row := lawS0745CItoaRow, standIns := [], harness := (true, "a95184637ed45da5403fe35a9847fff9fb9be12e9546310154fcb2fb46c55011"), looks := true }, told := true, laidByText := true, laidKinds := [.data, .data, .data, .sentinel, .sentinel], laidTests := true, laidLooks := .later, goes := false }
def LawS0745CItoaToldSaid : Prop := Claim7.holds Ybaf.pinned (.plain (OpenSpec.ofChange lawS0745CItoaSpec)) lawS0745CItoaCard
/-- ITS FALSE NEIGHBOUR. Refute it at one input. -/
def LawS0745CItoaToldWrongFalsely : Prop := Claim7.holds Ybaf.pinned (.plain (OpenSpec.ofChange lawS0745CItoaWrong)) lawS0745CItoaCard
end Rows
end Go.Proofs.YbulkokeFmt
