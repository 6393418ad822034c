/-
  The shelf at this dump, in plain words: written by the kit's lay-plain tool for this program; the laying of WriteByte (which the tool told as not laid) by hand.
-/
import Derived.Shelf.Strings.Builder2
import Derived.Shelf.Strings.BuilderK
import Derived.Test.YbulkoeuProg
namespace Go.Proofs
open Go.Shelf Go.RowKit
def Yba.lays169_ren : Go.Shelf.Ren := ⟨fun | 169 => 9 | n => n, fun | 70 => 29 | 9 => 9 | 0 => 0 | 72 => 31 | 37 => 27 | 127 => 37 | 3 => 3 | 5 => 5 | n => n, fun | n => n⟩
theorem Yba.lays169 : Go.Proofs.Lays.n169 Yba.prog Yba.lays169_ren := {
  mixed := by kernel_rfl
  f169 := Yba.func9.trans (congrArg some (by kernel_rfl))
  t0 := Yba.underlying0
  a0 := Yba.isAgg0
  z0 := Yba.sizeOf0
  v0 := Yba.zeroValue0
  t3 := Yba.underlying3
  a3 := Yba.isAgg3
  z3 := Yba.sizeOf3
  v3 := Yba.zeroValue3
  t9 := Yba.underlying9
  a9 := Yba.isAgg9
  z9 := Yba.sizeOf9
  v9 := Yba.zeroValue9
  t37 := Yba.underlying27
  a37 := Yba.isAgg27
  z37 := Yba.sizeOf27
  v37 := Yba.zeroValue27
  t70 := Yba.underlying29
  a70 := Yba.isAgg29
  z70 := Yba.sizeOf29
  v70 := Yba.zeroValue29
  t72 := Yba.underlying31
  a72 := Yba.isAgg31
  z72 := Yba.sizeOf31
  v72 := Yba.zeroValue31
  t127 := Yba.underlying37
  a127 := Yba.isAgg37
  z127 := Yba.sizeOf37
  v127 := Yba.zeroValue37 }
theorem Yba.Builder_Extra_169 : Builder.Extra Yba.prog Yba.lays169_ren := {
  sizeBuilder := by kernel_rfl
  liesBuilder := by kernel_rfl
  t5 := Yba.underlying5
  a5 := Yba.isAgg5
  z5 := Yba.sizeOf5
  v5 := Yba.zeroValue5
  infoByte := by kernel_rfl
  cellsByte := by kernel_rfl
  sizeByte := by kernel_rfl
  neB5 := by decide }
def Yba.lays165_ren : Go.Shelf.Ren := ⟨fun | 165 => 7 | 240 => 10 | 241 => 11 | 276 => 12 | 277 => 13 | n => n, fun | 70 => 29 | 3 => 3 | 0 => 0 | 4 => 4 | 9 => 9 | 20 => 20 | 72 => 31 | 37 => 27 | 164 => 38 | 5 => 5 | n => n, fun | n => n⟩
theorem Yba.lays165 : Go.Proofs.Lays.n165 Yba.prog Yba.lays165_ren := {
  mixed := by kernel_rfl
  f165 := Yba.func7.trans (congrArg some (by kernel_rfl))
  f240 := Yba.func10.trans (congrArg some (by kernel_rfl))
  f241 := Yba.func11.trans (congrArg some (by kernel_rfl))
  f276 := Yba.func12.trans (congrArg some (by kernel_rfl))
  f277 := Yba.func13.trans (congrArg some (by kernel_rfl))
  t0 := Yba.underlying0
  a0 := Yba.isAgg0
  z0 := Yba.sizeOf0
  v0 := Yba.zeroValue0
  t3 := Yba.underlying3
  a3 := Yba.isAgg3
  z3 := Yba.sizeOf3
  v3 := Yba.zeroValue3
  t4 := Yba.underlying4
  a4 := Yba.isAgg4
  z4 := Yba.sizeOf4
  v4 := Yba.zeroValue4
  t9 := Yba.underlying9
  a9 := Yba.isAgg9
  z9 := Yba.sizeOf9
  v9 := Yba.zeroValue9
  t20 := Yba.underlying20
  a20 := Yba.isAgg20
  z20 := Yba.sizeOf20
  v20 := Yba.zeroValue20
  t37 := Yba.underlying27
  a37 := Yba.isAgg27
  z37 := Yba.sizeOf27
  v37 := Yba.zeroValue27
  t70 := Yba.underlying29
  a70 := Yba.isAgg29
  z70 := Yba.sizeOf29
  v70 := Yba.zeroValue29
  t72 := Yba.underlying31
  a72 := Yba.isAgg31
  z72 := Yba.sizeOf31
  v72 := Yba.zeroValue31
  t164 := Yba.underlying38
  a164 := Yba.isAgg38
  z164 := Yba.sizeOf38
  v164 := Yba.zeroValue38 }
theorem Yba.Builder_Extra_165 : Builder.Extra Yba.prog Yba.lays165_ren := {
  sizeBuilder := by kernel_rfl
  liesBuilder := by kernel_rfl
  t5 := Yba.underlying5
  a5 := Yba.isAgg5
  z5 := Yba.sizeOf5
  v5 := Yba.zeroValue5
  infoByte := by kernel_rfl
  cellsByte := by kernel_rfl
  sizeByte := by kernel_rfl
  neB5 := by decide }
theorem Yba.Builder_Grow_fresh (B b n : Nat) (w : World) (hB : B ≤ b) (hbk : w.heap[b]? = some (.cells #[.pointer none, .slice none 0 0] 31 (0, 0))) (hBw : B ≤ w.heap.size) (hn : n ≤ 281474976710656) :
    Calls Yba.prog 7 #[.pointer (some ⟨b, 0, none⟩), .int .i64 n] w fun e w' => e = .returned (.tuple #[]) ∧ (Lib.BuilderAt 31 5 B b (.pointer (some ⟨b, 0, none⟩)) [] w' ∧ Below B w w') := Any.Builder_Grow_fresh Yba.lays165 Yba.Builder_Extra_165 B b n w hB hbk hBw hn
theorem Yba.Builder_String_any_k (B b : Nat) (l : List UInt8) (w : World) (h : Lib.IsBuilderF 31 5 B b (Lib.byteCells l) w) (hBw : B ≤ w.heap.size) :
    Calls Yba.prog 9 #[.pointer (some ⟨b, 0, none⟩)] w fun e w' => e = .returned (.string ⟨l.toArray⟩) ∧ (Lib.IsBuilderF 31 5 B b (Lib.byteCells l) w' ∧ Below B w w' ∧ Lib.OthersKept 5 (some b) w w') := Any.Builder_String_any_k Yba.lays169 Yba.Builder_Extra_169 B b l w h hBw
def Yba.lays167_ren : Go.Shelf.Ren := ⟨fun | 167 => 8 | 240 => 10 | 276 => 12 | n => n, fun | 70 => 29 | 0 => 0 | 4 => 4 | 9 => 9 | 20 => 20 | 72 => 31 | 37 => 27 | 75 => 34 | 80 => 36 | 164 => 38 | 5 => 5 | n => n, fun | n => n⟩
theorem Yba.lays167 : Go.Proofs.Lays.n167 Yba.prog Yba.lays167_ren := {
  mixed := by kernel_rfl
  f167 := Yba.func8.trans (congrArg some (by kernel_rfl))
  f240 := Yba.func10.trans (congrArg some (by kernel_rfl))
  f276 := Yba.func12.trans (congrArg some (by kernel_rfl))
  t0 := Yba.underlying0
  a0 := Yba.isAgg0
  z0 := Yba.sizeOf0
  v0 := Yba.zeroValue0
  t4 := Yba.underlying4
  a4 := Yba.isAgg4
  z4 := Yba.sizeOf4
  v4 := Yba.zeroValue4
  t5 := Yba.underlying5
  a5 := Yba.isAgg5
  z5 := Yba.sizeOf5
  v5 := Yba.zeroValue5
  t9 := Yba.underlying9
  a9 := Yba.isAgg9
  z9 := Yba.sizeOf9
  v9 := Yba.zeroValue9
  t20 := Yba.underlying20
  a20 := Yba.isAgg20
  z20 := Yba.sizeOf20
  v20 := Yba.zeroValue20
  t37 := Yba.underlying27
  a37 := Yba.isAgg27
  z37 := Yba.sizeOf27
  v37 := Yba.zeroValue27
  t70 := Yba.underlying29
  a70 := Yba.isAgg29
  z70 := Yba.sizeOf29
  v70 := Yba.zeroValue29
  t72 := Yba.underlying31
  a72 := Yba.isAgg31
  z72 := Yba.sizeOf31
  v72 := Yba.zeroValue31
  t75 := Yba.underlying34
  a75 := Yba.isAgg34
  z75 := Yba.sizeOf34
  v75 := Yba.zeroValue34
  t164 := Yba.underlying38
  a164 := Yba.isAgg38
  z164 := Yba.sizeOf38
  v164 := Yba.zeroValue38 }
theorem Yba.Builder_Extra_167 : Builder.Extra Yba.prog Yba.lays167_ren := {
  sizeBuilder := by kernel_rfl
  liesBuilder := by kernel_rfl
  t5 := Yba.underlying5
  a5 := Yba.isAgg5
  z5 := Yba.sizeOf5
  v5 := Yba.zeroValue5
  infoByte := by kernel_rfl
  cellsByte := by kernel_rfl
  sizeByte := by kernel_rfl
  neB5 := by decide }
theorem Yba.Builder_WriteByte_k (B b : Nat) (bs : List Value) (c : Int) (w : World) (h : Lib.IsBuilderF 31 5 B b bs w) (hlen : bs.length + 1 ≤ 140737488355328) (hBw : B ≤ w.heap.size) :
    Calls Yba.prog 8 #[.pointer (some ⟨b, 0, none⟩), .int .u8 c] w fun e w' => e = .returned .nilIface ∧ (Lib.BuilderAtF 31 5 B b (.pointer (some ⟨b, 0, none⟩)) (bs ++ [.int .u8 c]) w' ∧ Below B w w' ∧ Lib.OthersKept 5 (some b) w w') := Any.Builder_WriteByte_k Yba.lays167 Yba.Builder_Extra_167 B b bs c w h hlen hBw
end Go.Proofs
