/-
  NARROWER THAN 'FOR EVERY INPUT', by the rows' own cells (each row's printed sentence says how): LawS0735CName: laid · LawS0735CSmall: laid.
  DERIVED. THE GIVEN ROWS OF THIS SEAT. 4 by the template 'for every input the law returns true; each argument reads behind the call as it read before'; 0 by the template 'total and deterministic' (their statements: YbulkoeuDoorTotals.lean).
  GIVEN WITH THE SEED: the statements are not yours to turn. If you find one false, say at which input.
  Laid BY PROGRAM, IN A SANDBOX (cutbox-rows.mjs): the forced cells as the released guide's own fill.sh prints them over the translation f928962ede32aecd… (all of the seat's roots in one cut). By AI agents, Wed Nov 11 2026. No macro, syntax, notation, axiom, sorry.
-/
import Derived.Test.YbulkoeuDoorChecked
import GoSem.Claim
import GoSem.ClaimJoined
import GoSem.ClaimMapViews
import Derived.JoinedTies
import Derived.KernelRfl
namespace Go.Proofs.YbulkoeuDoor
/- THE CELL 'sum', in the pinned program and in every row, IS THE sha256 OF THE DUMP (.gsa) THAT YbulkoeuDoorProg.lean LOADS. Nothing in Lean hashes anything: it is a label: what it is worth is what the hold of that sum in a sandbox is worth. -/
noncomputable def Ybad.pinned : Pinned := { name := "ybulkoeudoor", sum := "f928962ede32aecdac55c4175d2ab862b96e4719e668065129567c503f5b05dd", checked := Ybad.checked }
namespace Rows
def none {H : Type} : Left H := { results := [], args := [] }

/- WHAT THE LISTED PACKAGE-LEVEL VARIABLES READ AS WHEN THE CALL BEGINS. Each datum BY PROGRAM (the guide's laid-datum.mjs) off the statement by which the dump's own 'gosem.cut.vars' lays the variable. In a bare row this is a premise. The card (YbulkoeuDoorCards.lean) ties it to the program's text. -/
def laid_internal_strconv_uint64pow10 {H : Type} : DataW H := .agg [.lit (.int .u64 1), .lit (.int .u64 10), .lit (.int .u64 100), .lit (.int .u64 1000), .lit (.int .u64 10000), .lit (.int .u64 100000), .lit (.int .u64 1000000), .lit (.int .u64 10000000), .lit (.int .u64 100000000), .lit (.int .u64 1000000000), .lit (.int .u64 10000000000), .lit (.int .u64 100000000000), .lit (.int .u64 1000000000000), .lit (.int .u64 10000000000000), .lit (.int .u64 100000000000000), .lit (.int .u64 1000000000000000), .lit (.int .u64 10000000000000000), .lit (.int .u64 100000000000000000), .lit (.int .u64 1000000000000000000), .lit (.int .u64 10000000000000000000)]
def laid_math_bits_deBruijn32tab {H : Type} : DataW H := .agg [.lit (.int .u8 0), .lit (.int .u8 1), .lit (.int .u8 28), .lit (.int .u8 2), .lit (.int .u8 29), .lit (.int .u8 14), .lit (.int .u8 24), .lit (.int .u8 3), .lit (.int .u8 30), .lit (.int .u8 22), .lit (.int .u8 20), .lit (.int .u8 15), .lit (.int .u8 25), .lit (.int .u8 17), .lit (.int .u8 4), .lit (.int .u8 8), .lit (.int .u8 31), .lit (.int .u8 27), .lit (.int .u8 13), .lit (.int .u8 23), .lit (.int .u8 21), .lit (.int .u8 19), .lit (.int .u8 16), .lit (.int .u8 7), .lit (.int .u8 26), .lit (.int .u8 12), .lit (.int .u8 18), .lit (.int .u8 6), .lit (.int .u8 11), .lit (.int .u8 5), .lit (.int .u8 10), .lit (.int .u8 9)]
def laid_math_bits_deBruijn64tab {H : Type} : DataW H := .agg [.lit (.int .u8 0), .lit (.int .u8 1), .lit (.int .u8 56), .lit (.int .u8 2), .lit (.int .u8 57), .lit (.int .u8 49), .lit (.int .u8 28), .lit (.int .u8 3), .lit (.int .u8 61), .lit (.int .u8 58), .lit (.int .u8 42), .lit (.int .u8 50), .lit (.int .u8 38), .lit (.int .u8 29), .lit (.int .u8 17), .lit (.int .u8 4), .lit (.int .u8 62), .lit (.int .u8 47), .lit (.int .u8 59), .lit (.int .u8 36), .lit (.int .u8 45), .lit (.int .u8 43), .lit (.int .u8 51), .lit (.int .u8 22), .lit (.int .u8 53), .lit (.int .u8 39), .lit (.int .u8 33), .lit (.int .u8 30), .lit (.int .u8 24), .lit (.int .u8 18), .lit (.int .u8 12), .lit (.int .u8 5), .lit (.int .u8 63), .lit (.int .u8 55), .lit (.int .u8 48), .lit (.int .u8 27), .lit (.int .u8 60), .lit (.int .u8 41), .lit (.int .u8 37), .lit (.int .u8 16), .lit (.int .u8 46), .lit (.int .u8 35), .lit (.int .u8 44), .lit (.int .u8 21), .lit (.int .u8 52), .lit (.int .u8 32), .lit (.int .u8 23), .lit (.int .u8 11), .lit (.int .u8 54), .lit (.int .u8 26), .lit (.int .u8 40), .lit (.int .u8 15), .lit (.int .u8 34), .lit (.int .u8 20), .lit (.int .u8 31), .lit (.int .u8 10), .lit (.int .u8 25), .lit (.int .u8 14), .lit (.int .u8 19), .lit (.int .u8 9), .lit (.int .u8 13), .lit (.int .u8 8), .lit (.int .u8 7), .lit (.int .u8 6)]

/-- 'epistle.LawS0735ABlankList': WHATEVER THE INPUT: true; the input reads as it did. -/
def lawS0735ABlankListSpec : ChangeSpec := { name := "lawS0735ABlankList", vars := ["example.com/epistle/epistle.ctext", "example.com/epistle/epistle.obsQP", "example.com/epistle/epistle.obsNoWSCtl", "example.com/epistle/epistle.qtext", "example.com/epistle/epistle.dotAtomChars", "example.com/epistle/epistle.dtext", "example.com/epistle/epistle.atext", "example.com/epistle/epistle.pairedOnly"], fn := fun _ => fun
  | [d, g1, g2, g3, g4, g5, g6, g7, g8] => { results := [.lit (.bool true)], args := [d], vars := [g1, g2, g3, g4, g5, g6, g7, g8] }
  | _ => none }
def lawS0735ABlankListRow : OpenClaim := { program := "ybulkoeudoor", sum := "f928962ede32aecdac55c4175d2ab862b96e4719e668065129567c503f5b05dd", func := "example.com/epistle/epistle.LawS0735ABlankList", spec := "lawS0735ABlankList", inPlace := ["internal/abi.NoEscape", "internal/bytealg.MakeNoZero", "internal/bytealg.IndexByteString", "internal/bytealg.IndexString"], unfollowed := true, recurses := true, named := ["example.com/epistle/epistle.ctext", "example.com/epistle/epistle.obsQP", "example.com/epistle/epistle.obsNoWSCtl", "example.com/epistle/epistle.qtext", "example.com/epistle/epistle.dotAtomChars", "example.com/epistle/epistle.dtext", "example.com/epistle/epistle.atext", "internal/bytealg.MaxLen", "example.com/epistle/epistle.pairedOnly"], apart := false }
def LawS0735ABlankListSaid : Prop := lawS0735ABlankListRow.holds Ybad.pinned (OpenSpec.ofChange lawS0735ABlankListSpec)

/-- ITS FALSE NEIGHBOUR: 'it returns false'. Refute it at one input. -/
def lawS0735ABlankListWrong : ChangeSpec := { name := "lawS0735ABlankList", vars := ["example.com/epistle/epistle.ctext", "example.com/epistle/epistle.obsQP", "example.com/epistle/epistle.obsNoWSCtl", "example.com/epistle/epistle.qtext", "example.com/epistle/epistle.dotAtomChars", "example.com/epistle/epistle.dtext", "example.com/epistle/epistle.atext", "example.com/epistle/epistle.pairedOnly"], fn := fun _ => fun
  | [d, g1, g2, g3, g4, g5, g6, g7, g8] => { results := [.lit (.bool false)], args := [d], vars := [g1, g2, g3, g4, g5, g6, g7, g8] }
  | _ => none }
def LawS0735ABlankListWrongFalsely : Prop := lawS0735ABlankListRow.holds Ybad.pinned (OpenSpec.ofChange lawS0735ABlankListWrong)

/-- 'epistle.LawS0735ALineEnd': WHATEVER THE INPUT: true; the input reads as it did. -/
def lawS0735ALineEndSpec : ChangeSpec := { name := "lawS0735ALineEnd", vars := ["example.com/epistle/epistle.ctext", "example.com/epistle/epistle.obsQP", "example.com/epistle/epistle.obsNoWSCtl", "example.com/epistle/epistle.qtext", "example.com/epistle/epistle.dotAtomChars", "example.com/epistle/epistle.dtext", "example.com/epistle/epistle.atext", "example.com/epistle/epistle.pairedOnly"], fn := fun _ => fun
  | [d1, d2, d3, g1, g2, g3, g4, g5, g6, g7, g8] => { results := [.lit (.bool true)], args := [d1, d2, d3], vars := [g1, g2, g3, g4, g5, g6, g7, g8] }
  | _ => none }
def lawS0735ALineEndRow : OpenClaim := { program := "ybulkoeudoor", sum := "f928962ede32aecdac55c4175d2ab862b96e4719e668065129567c503f5b05dd", func := "example.com/epistle/epistle.LawS0735ALineEnd", spec := "lawS0735ALineEnd", inPlace := ["internal/abi.NoEscape", "internal/bytealg.MakeNoZero", "internal/bytealg.IndexByteString", "internal/bytealg.IndexString"], unfollowed := true, recurses := true, named := ["example.com/epistle/epistle.ctext", "example.com/epistle/epistle.obsQP", "example.com/epistle/epistle.obsNoWSCtl", "example.com/epistle/epistle.qtext", "example.com/epistle/epistle.dotAtomChars", "example.com/epistle/epistle.dtext", "example.com/epistle/epistle.atext", "internal/bytealg.MaxLen", "example.com/epistle/epistle.pairedOnly"], apart := false }
def LawS0735ALineEndSaid : Prop := lawS0735ALineEndRow.holds Ybad.pinned (OpenSpec.ofChange lawS0735ALineEndSpec)

/-- ITS FALSE NEIGHBOUR: 'it returns false'. Refute it at one input. -/
def lawS0735ALineEndWrong : ChangeSpec := { name := "lawS0735ALineEnd", vars := ["example.com/epistle/epistle.ctext", "example.com/epistle/epistle.obsQP", "example.com/epistle/epistle.obsNoWSCtl", "example.com/epistle/epistle.qtext", "example.com/epistle/epistle.dotAtomChars", "example.com/epistle/epistle.dtext", "example.com/epistle/epistle.atext", "example.com/epistle/epistle.pairedOnly"], fn := fun _ => fun
  | [d1, d2, d3, g1, g2, g3, g4, g5, g6, g7, g8] => { results := [.lit (.bool false)], args := [d1, d2, d3], vars := [g1, g2, g3, g4, g5, g6, g7, g8] }
  | _ => none }
def LawS0735ALineEndWrongFalsely : Prop := lawS0735ALineEndRow.holds Ybad.pinned (OpenSpec.ofChange lawS0735ALineEndWrong)

/-- 'epistle.LawS0735CName': WHATEVER THE INPUT: true; the input reads as it did. -/
def lawS0735CNameSpec : ChangeSpec := { name := "lawS0735CName", fn := fun _ => fun
  | [d] => { results := [.lit (.bool true)], args := [d] }
  | _ => none }
def lawS0735CNameRow : OpenClaim := { program := "ybulkoeudoor", sum := "f928962ede32aecdac55c4175d2ab862b96e4719e668065129567c503f5b05dd", func := "example.com/epistle/epistle.LawS0735CName", spec := "lawS0735CName", named := ["internal/strconv.uint64pow10", "math/bits.deBruijn32tab", "math/bits.deBruijn64tab"], apart := false, laid := [("internal/strconv.uint64pow10", laid_internal_strconv_uint64pow10), ("math/bits.deBruijn32tab", laid_math_bits_deBruijn32tab), ("math/bits.deBruijn64tab", laid_math_bits_deBruijn64tab)] }
def LawS0735CNameSaid : Prop := lawS0735CNameRow.holds Ybad.pinned (OpenSpec.ofChange lawS0735CNameSpec)

/-- ITS FALSE NEIGHBOUR: 'it returns false'. Refute it at one input. -/
def lawS0735CNameWrong : ChangeSpec := { name := "lawS0735CName", fn := fun _ => fun
  | [d] => { results := [.lit (.bool false)], args := [d] }
  | _ => none }
def LawS0735CNameWrongFalsely : Prop := lawS0735CNameRow.holds Ybad.pinned (OpenSpec.ofChange lawS0735CNameWrong)

/-- 'epistle.LawS0735CSmall': WHATEVER THE INPUT: true; the input reads as it did. -/
def lawS0735CSmallSpec : ChangeSpec := { name := "lawS0735CSmall", fn := fun _ => fun
  | [d] => { results := [.lit (.bool true)], args := [d] }
  | _ => none }
def lawS0735CSmallRow : OpenClaim := { program := "ybulkoeudoor", sum := "f928962ede32aecdac55c4175d2ab862b96e4719e668065129567c503f5b05dd", func := "example.com/epistle/epistle.LawS0735CSmall", spec := "lawS0735CSmall", named := ["internal/strconv.uint64pow10", "math/bits.deBruijn32tab", "math/bits.deBruijn64tab"], apart := false, laid := [("internal/strconv.uint64pow10", laid_internal_strconv_uint64pow10), ("math/bits.deBruijn32tab", laid_math_bits_deBruijn32tab), ("math/bits.deBruijn64tab", laid_math_bits_deBruijn64tab)] }
def LawS0735CSmallSaid : Prop := lawS0735CSmallRow.holds Ybad.pinned (OpenSpec.ofChange lawS0735CSmallSpec)

/-- ITS FALSE NEIGHBOUR: 'it returns false'. Refute it at one input. -/
def lawS0735CSmallWrong : ChangeSpec := { name := "lawS0735CSmall", fn := fun _ => fun
  | [d] => { results := [.lit (.bool false)], args := [d] }
  | _ => none }
def LawS0735CSmallWrongFalsely : Prop := lawS0735CSmallRow.holds Ybad.pinned (OpenSpec.ofChange lawS0735CSmallWrong)

end Rows
end Go.Proofs.YbulkoeuDoor
