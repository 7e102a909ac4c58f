/-
  The shelf's contracts of strings.Builder's WriteString and WriteByte at this dump: laid by hand (the shelf's own tool finds no number for types that the bodies here do not name). Condition: the new length takes at most 2^47 bytes.
-/
import Derived.Test.YtdlkdojgbiahgaaGreatFmtShelfB
import Derived.Shelf.Strings.Builder1
namespace Go.Proofs
open Go.Shelf
def Tryz.lays166_ren : Go.Shelf.Ren := ⟨fun | 165 => 43 | 166 => 44 | 167 => 46 | 240 => 69 | 241 => 70 | 276 => 93 | 277 => 94 | n => n, fun | 70 => 77 | 3 => 3 | 0 => 0 | 4 => 4 | 9 => 9 | 20 => 20 | 72 => 79 | 37 => 24 | 164 => 113 | 5 => 5 | 75 => 44 | 80 => 72 | n => n, fun | n => n⟩
theorem Tryz.lays166 : Go.Proofs.Lays.n166 Tryz.prog Tryz.lays166_ren := {
  mixed := by kernel_rfl
  f166 := Tryz.func44.trans (congrArg some (by kernel_rfl))
  f240 := Tryz.func69.trans (congrArg some (by kernel_rfl))
  f276 := Tryz.func93.trans (congrArg some (by kernel_rfl))
  t0 := Tryz.underlying0
  a0 := Tryz.isAgg0
  z0 := Tryz.sizeOf0
  v0 := Tryz.zeroValue0
  t3 := Tryz.underlying3
  a3 := Tryz.isAgg3
  z3 := Tryz.sizeOf3
  v3 := Tryz.zeroValue3
  t4 := Tryz.underlying4
  a4 := Tryz.isAgg4
  z4 := Tryz.sizeOf4
  v4 := Tryz.zeroValue4
  t9 := Tryz.underlying9
  a9 := Tryz.isAgg9
  z9 := Tryz.sizeOf9
  v9 := Tryz.zeroValue9
  t20 := Tryz.underlying20
  a20 := Tryz.isAgg20
  z20 := Tryz.sizeOf20
  v20 := Tryz.zeroValue20
  t37 := Tryz.underlying24
  a37 := Tryz.isAgg24
  z37 := Tryz.sizeOf24
  v37 := Tryz.zeroValue24
  t70 := Tryz.underlying77
  a70 := Tryz.isAgg77
  z70 := Tryz.sizeOf77
  v70 := Tryz.zeroValue77
  t72 := Tryz.underlying79
  a72 := Tryz.isAgg79
  z72 := Tryz.sizeOf79
  v72 := Tryz.zeroValue79
  t75 := Tryz.underlying44
  a75 := Tryz.isAgg44
  z75 := Tryz.sizeOf44
  v75 := Tryz.zeroValue44
  t164 := Tryz.underlying113
  a164 := Tryz.isAgg113
  z164 := Tryz.sizeOf113
  v164 := Tryz.zeroValue113 }
theorem Tryz.Builder_Extra_166 : Builder.Extra Tryz.prog Tryz.lays166_ren := {
  sizeBuilder := by kernel_rfl
  liesBuilder := by kernel_rfl
  t5 := Tryz.underlying5
  a5 := Tryz.isAgg5
  z5 := Tryz.sizeOf5
  v5 := Tryz.zeroValue5
  infoByte := by kernel_rfl
  cellsByte := by kernel_rfl
  sizeByte := by kernel_rfl
  neB5 := by decide }
def Tryz.lays167_ren : Go.Shelf.Ren := ⟨fun | 165 => 43 | 166 => 44 | 167 => 46 | 240 => 69 | 241 => 70 | 276 => 93 | 277 => 94 | n => n, fun | 70 => 77 | 3 => 3 | 0 => 0 | 4 => 4 | 9 => 9 | 20 => 20 | 72 => 79 | 37 => 24 | 164 => 113 | 5 => 5 | 75 => 44 | 80 => 72 | n => n, fun | n => n⟩
theorem Tryz.lays167 : Go.Proofs.Lays.n167 Tryz.prog Tryz.lays167_ren := {
  mixed := by kernel_rfl
  f167 := Tryz.func46.trans (congrArg some (by kernel_rfl))
  f240 := Tryz.func69.trans (congrArg some (by kernel_rfl))
  f276 := Tryz.func93.trans (congrArg some (by kernel_rfl))
  t0 := Tryz.underlying0
  a0 := Tryz.isAgg0
  z0 := Tryz.sizeOf0
  v0 := Tryz.zeroValue0
  t4 := Tryz.underlying4
  a4 := Tryz.isAgg4
  z4 := Tryz.sizeOf4
  v4 := Tryz.zeroValue4
  t5 := Tryz.underlying5
  a5 := Tryz.isAgg5
  z5 := Tryz.sizeOf5
  v5 := Tryz.zeroValue5
  t9 := Tryz.underlying9
  a9 := Tryz.isAgg9
  z9 := Tryz.sizeOf9
  v9 := Tryz.zeroValue9
  t20 := Tryz.underlying20
  a20 := Tryz.isAgg20
  z20 := Tryz.sizeOf20
  v20 := Tryz.zeroValue20
  t37 := Tryz.underlying24
  a37 := Tryz.isAgg24
  z37 := Tryz.sizeOf24
  v37 := Tryz.zeroValue24
  t70 := Tryz.underlying77
  a70 := Tryz.isAgg77
  z70 := Tryz.sizeOf77
  v70 := Tryz.zeroValue77
  t72 := Tryz.underlying79
  a72 := Tryz.isAgg79
  z72 := Tryz.sizeOf79
  v72 := Tryz.zeroValue79
  t75 := Tryz.underlying44
  a75 := Tryz.isAgg44
  z75 := Tryz.sizeOf44
  v75 := Tryz.zeroValue44
  t164 := Tryz.underlying113
  a164 := Tryz.isAgg113
  z164 := Tryz.sizeOf113
  v164 := Tryz.zeroValue113 }
theorem Tryz.Builder_Extra_167 : Builder.Extra Tryz.prog Tryz.lays167_ren := {
  sizeBuilder := by kernel_rfl
  liesBuilder := by kernel_rfl
  t5 := Tryz.underlying5
  a5 := Tryz.isAgg5
  z5 := Tryz.sizeOf5
  v5 := Tryz.zeroValue5
  infoByte := by kernel_rfl
  cellsByte := by kernel_rfl
  sizeByte := by kernel_rfl
  neB5 := by decide }
open Go.RowKit in
theorem Tryz.Builder_WriteByte (B b : Nat) (bs : List Value) (c : Int) (w : World) (h : Lib.IsBuilder 79 5 B b bs w) (hlen : bs.length + 1 ≤ 140737488355328) (hBw : B ≤ w.heap.size) :
    Calls Tryz.prog 46 #[.pointer (some ⟨b, 0, none⟩), .int .u8 c] w fun e w' => e = .returned .nilIface ∧ (Lib.BuilderAt 79 5 B b (.pointer (some ⟨b, 0, none⟩)) (bs ++ [.int .u8 c]) w' ∧ Below B w w') := Any.Builder_WriteByte Tryz.lays167 Tryz.Builder_Extra_167 B b bs c w h hlen hBw
open Go.RowKit in
theorem Tryz.Builder_WriteString (B b : Nat) (bs : List Value) (s : ByteArray) (w : World) (h : Lib.IsBuilder 79 5 B b bs w) (hlen : bs.length + s.size ≤ 140737488355328) (hBw : B ≤ w.heap.size) :
    Calls Tryz.prog 44 #[.pointer (some ⟨b, 0, none⟩), .string s] w fun e w' => e = .returned (.tuple #[.int .i64 s.size, .nilIface]) ∧ (Lib.BuilderAt 79 5 B b (.pointer (some ⟨b, 0, none⟩)) (bs ++ Lib.strCells s) w' ∧ Below B w w') := Any.Builder_WriteString Tryz.lays166 Tryz.Builder_Extra_166 B b bs s w h hlen hBw
end Go.Proofs
