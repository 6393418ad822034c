/-
  The shelf's strconv.Itoa at this dump, in plain words: written by the kit's lay-plain tool for this program (cut to what is used; the table's name taken off the given row).
-/
import Derived.Shelf.Strconv.Itoa3
import Derived.Shelf.LaysM
import Derived.Lib.AppendIntMem
import Derived.Test.YbulkoeuDoorRows
namespace Go.Proofs
open Go.Shelf Go.RowKit Go.Sort
/-- The name of the table of the powers of ten, off the given row. -/
def YbulkoeuDoor.powName : String := (YbulkoeuDoor.Rows.lawS0735CNameRow.named.head?).getD default
def Ybad.laysM171_ren : Go.Shelf.Ren := ⟨fun | 171 => 14 | 243 => 18 | 246 => 30 | 283 => 45 | 284 => 46 | 285 => 47 | 286 => 48 | 129 => 63 | 317 => 62 | 318 => 64 | 319 => 65 | 320 => 66 | 337 => 78 | 338 => 79 | n => n, fun | 3 => 3 | 9 => 9 | 2 => 2 | 4 => 4 | 171 => 51 | 0 => 0 | 53 => 50 | 37 => 22 | 5 => 5 | 173 => 88 | 212 => 108 | 51 => 109 | 20 => 20 | 213 => 110 | 46 => 93 | 232 => 122 | 233 => 123 | n => n, fun | 17 => 0 | 18 => 8 | 19 => 9 | n => n⟩
theorem Ybad.laysM171 : Go.Proofs.LaysM.n171 Ybad.prog Ybad.laysM171_ren := {
  mixed := by kernel_rfl
  f129 := Ybad.func63.trans (congrArg some (by kernel_rfl))
  f171 := Ybad.func14.trans (congrArg some (by kernel_rfl))
  f243 := Ybad.func18.trans (congrArg some (by kernel_rfl))
  f246 := Ybad.func30.trans (congrArg some (by kernel_rfl))
  f283 := Ybad.func45.trans (congrArg some (by kernel_rfl))
  f284 := Ybad.func46.trans (congrArg some (by kernel_rfl))
  f285 := Ybad.func47.trans (congrArg some (by kernel_rfl))
  f286 := Ybad.func48.trans (congrArg some (by kernel_rfl))
  f317 := Ybad.func62.trans (congrArg some (by kernel_rfl))
  f318 := Ybad.func64.trans (congrArg some (by kernel_rfl))
  f319 := Ybad.func65.trans (congrArg some (by kernel_rfl))
  f320 := Ybad.func66.trans (congrArg some (by kernel_rfl))
  f337 := Ybad.func78.trans (congrArg some (by kernel_rfl))
  f338 := Ybad.func79.trans (congrArg some (by kernel_rfl))
  t0 := Ybad.underlying0
  a0 := Ybad.isAgg0
  z0 := Ybad.sizeOf0
  v0 := Ybad.zeroValue0
  t2 := Ybad.underlying2
  a2 := Ybad.isAgg2
  z2 := Ybad.sizeOf2
  v2 := Ybad.zeroValue2
  t3 := Ybad.underlying3
  a3 := Ybad.isAgg3
  z3 := Ybad.sizeOf3
  v3 := Ybad.zeroValue3
  t4 := Ybad.underlying4
  a4 := Ybad.isAgg4
  z4 := Ybad.sizeOf4
  v4 := Ybad.zeroValue4
  t5 := Ybad.underlying5
  a5 := Ybad.isAgg5
  z5 := Ybad.sizeOf5
  v5 := Ybad.zeroValue5
  t9 := Ybad.underlying9
  a9 := Ybad.isAgg9
  z9 := Ybad.sizeOf9
  v9 := Ybad.zeroValue9
  t20 := Ybad.underlying20
  a20 := Ybad.isAgg20
  z20 := Ybad.sizeOf20
  v20 := Ybad.zeroValue20
  t37 := Ybad.underlying22
  a37 := Ybad.isAgg22
  z37 := Ybad.sizeOf22
  v37 := Ybad.zeroValue22
  t46 := Ybad.underlying93
  a46 := Ybad.isAgg93
  z46 := Ybad.sizeOf93
  v46 := Ybad.zeroValue93
  t51 := Ybad.underlying109
  a51 := Ybad.isAgg109
  z51 := Ybad.sizeOf109
  v51 := Ybad.zeroValue109
  t53 := Ybad.underlying50
  a53 := Ybad.isAgg50
  z53 := Ybad.sizeOf50
  v53 := Ybad.zeroValue50
  t171 := Ybad.underlying51
  a171 := Ybad.isAgg51
  z171 := Ybad.sizeOf51
  v171 := Ybad.zeroValue51
  t173 := Ybad.underlying88
  a173 := Ybad.isAgg88
  z173 := Ybad.sizeOf88
  v173 := Ybad.zeroValue88
  t212 := Ybad.underlying108
  a212 := Ybad.isAgg108
  z212 := Ybad.sizeOf108
  v212 := Ybad.zeroValue108
  t213 := Ybad.underlying110
  a213 := Ybad.isAgg110
  z213 := Ybad.sizeOf110
  t232 := Ybad.underlying122
  a232 := Ybad.isAgg122
  z232 := Ybad.sizeOf122
  v232 := Ybad.zeroValue122
  t233 := Ybad.underlying123
  a233 := Ybad.isAgg123
  z233 := Ybad.sizeOf123
  v233 := Ybad.zeroValue123
  g17 := by kernel_rfl
  g18 := by kernel_rfl
  g19 := by kernel_rfl
  i0 := by kernel_rfl
  i2 := by kernel_rfl
  i3 := by kernel_rfl
  i4 := by kernel_rfl
  i5 := by kernel_rfl
  i9 := by kernel_rfl
  i20 := by kernel_rfl
  i37 := by kernel_rfl
  i46 := by kernel_rfl
  i51 := by kernel_rfl
  i53 := by kernel_rfl
  i171 := by kernel_rfl
  i173 := by kernel_rfl
  i212 := by kernel_rfl
  i232 := by kernel_rfl
  i233 := by kernel_rfl
  m17 := by kernel_rfl
  m18 := by kernel_rfl
  m19 := by kernel_rfl }
theorem Ybad.strconv_Itoa (n : Int) (h0 : -9223372036854775808 ≤ n) (h1 : n ≤ 9223372036854775807) (w : World) (htab : Lib.TabIs Ybad.prog w YbulkoeuDoor.powName .u64 Lib.pow10Tab) :
    Calls Ybad.prog 14 #[.int .i64 n] w fun e w' => e = .returned (.string ⟨(Lib.itoa n).toArray⟩) ∧ ∃ k os, w' = grow (w.drewN k) os := Any.strconv_Itoa Ybad.laysM171 n h0 h1 w htab
end Go.Proofs
