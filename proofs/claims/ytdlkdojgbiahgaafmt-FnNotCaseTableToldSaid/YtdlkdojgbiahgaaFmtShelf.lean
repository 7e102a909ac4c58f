/-
  DERIVED: THE SHELF's CONTRACTS AT THIS DUMP, IN PLAIN WORDS (tools/lay-plain.mjs out of 'TryfShelf.lean', which tools/lay-shelf.mjs wrote): THE SAME DECLARATIONS UNDER THE SAME NAMES: 'import', 'namespace', 'open', 'def', 'theorem' AND NOTHING ELSE: no command of the shelf's: FOR A HAND-IN. Each laying: the table of numbers ('.._ren') and one theorem, a field a fact of the dump's own or the kernel's comparison; each contract: ONE APPLICATION.
-/
import Derived.Shelf.Small.Utf8
import Derived.Shelf.Unicode.Latin
import Derived.Shelf.Unicode.Props
import Derived.Shelf.Unicode.DecodeSlow
import Derived.Shelf.Unicode.DecodeAny
import Derived.Shelf.Unicode.Is16White
import Derived.Shelf.Unicode.IsSpaceAny
import Derived.Shelf.Unicode.DecodeLast
import Derived.Shelf.Unicode.Is16Any
import Derived.Shelf.Unicode.Is32Any
import Derived.Shelf.Unicode.ExclAny
import Derived.Shelf.Unicode.PredsAny
import Derived.Shelf.Unicode.PredsPay
import Derived.Test.YtdlkdojgbiahgaaFmtProg
namespace Go.Proofs
open Go.Shelf
def Tryf.lays197_ren : Go.Shelf.Ren := ⟨fun | 197 => 57 | 260 => 79 | n => n, fun | 9 => 9 | 21 => 21 | 3 => 3 | 4 => 4 | 5 => 5 | 105 => 50 | 119 => 114 | 0 => 0 | 46 => 70 | 139 => 117 | 138 => 116 | n => n, fun | 3 => 1 | 4 => 2 | n => n⟩
theorem Tryf.lays197 : Go.Proofs.Lays.n197 Tryf.prog Tryf.lays197_ren := {
  mixed := by kernel_rfl
  f197 := Tryf.func57.trans (congrArg some (by kernel_rfl))
  f260 := Tryf.func79.trans (congrArg some (by kernel_rfl))
  t0 := Tryf.underlying0
  a0 := Tryf.isAgg0
  z0 := Tryf.sizeOf0
  v0 := Tryf.zeroValue0
  t3 := Tryf.underlying3
  a3 := Tryf.isAgg3
  z3 := Tryf.sizeOf3
  v3 := Tryf.zeroValue3
  t4 := Tryf.underlying4
  a4 := Tryf.isAgg4
  z4 := Tryf.sizeOf4
  v4 := Tryf.zeroValue4
  t5 := Tryf.underlying5
  a5 := Tryf.isAgg5
  z5 := Tryf.sizeOf5
  v5 := Tryf.zeroValue5
  t9 := Tryf.underlying9
  a9 := Tryf.isAgg9
  z9 := Tryf.sizeOf9
  v9 := Tryf.zeroValue9
  t21 := Tryf.underlying21
  a21 := Tryf.isAgg21
  z21 := Tryf.sizeOf21
  v21 := Tryf.zeroValue21
  t46 := Tryf.underlying70
  a46 := Tryf.isAgg70
  z46 := Tryf.sizeOf70
  v46 := Tryf.zeroValue70
  t105 := Tryf.underlying50
  a105 := Tryf.isAgg50
  z105 := Tryf.sizeOf50
  v105 := Tryf.zeroValue50
  t119 := Tryf.underlying114
  a119 := Tryf.isAgg114
  z119 := Tryf.sizeOf114
  t138 := Tryf.underlying116
  a138 := Tryf.isAgg116
  z138 := Tryf.sizeOf116
  v138 := Tryf.zeroValue116
  t139 := Tryf.underlying117
  a139 := Tryf.isAgg117
  z139 := Tryf.sizeOf117
  v139 := Tryf.zeroValue117
  g3 := by kernel_rfl
  g4 := by kernel_rfl }
def Tryf.lays271_ren : Go.Shelf.Ren := ⟨fun | 271 => 64 | 120 => 83 | 197 => 57 | 260 => 79 | n => n, fun | 9 => 9 | 21 => 21 | 3 => 3 | 4 => 4 | 5 => 5 | 105 => 50 | 119 => 114 | 0 => 0 | 46 => 70 | 139 => 117 | 138 => 116 | n => n, fun | 3 => 1 | 4 => 2 | n => n⟩
theorem Tryf.lays271 : Go.Proofs.Lays.n271 Tryf.prog Tryf.lays271_ren := {
  mixed := by kernel_rfl
  f120 := Tryf.func83.trans (congrArg some (by kernel_rfl))
  f197 := Tryf.func57.trans (congrArg some (by kernel_rfl))
  f260 := Tryf.func79.trans (congrArg some (by kernel_rfl))
  f271 := Tryf.func64.trans (congrArg some (by kernel_rfl))
  t0 := Tryf.underlying0
  a0 := Tryf.isAgg0
  z0 := Tryf.sizeOf0
  v0 := Tryf.zeroValue0
  t3 := Tryf.underlying3
  a3 := Tryf.isAgg3
  z3 := Tryf.sizeOf3
  v3 := Tryf.zeroValue3
  t4 := Tryf.underlying4
  a4 := Tryf.isAgg4
  z4 := Tryf.sizeOf4
  v4 := Tryf.zeroValue4
  t5 := Tryf.underlying5
  a5 := Tryf.isAgg5
  z5 := Tryf.sizeOf5
  v5 := Tryf.zeroValue5
  t9 := Tryf.underlying9
  a9 := Tryf.isAgg9
  z9 := Tryf.sizeOf9
  v9 := Tryf.zeroValue9
  t21 := Tryf.underlying21
  a21 := Tryf.isAgg21
  z21 := Tryf.sizeOf21
  v21 := Tryf.zeroValue21
  t46 := Tryf.underlying70
  a46 := Tryf.isAgg70
  z46 := Tryf.sizeOf70
  v46 := Tryf.zeroValue70
  t105 := Tryf.underlying50
  a105 := Tryf.isAgg50
  z105 := Tryf.sizeOf50
  v105 := Tryf.zeroValue50
  t119 := Tryf.underlying114
  a119 := Tryf.isAgg114
  z119 := Tryf.sizeOf114
  t138 := Tryf.underlying116
  a138 := Tryf.isAgg116
  z138 := Tryf.sizeOf116
  v138 := Tryf.zeroValue116
  t139 := Tryf.underlying117
  a139 := Tryf.isAgg117
  z139 := Tryf.sizeOf117
  v139 := Tryf.zeroValue117
  g3 := by kernel_rfl
  g4 := by kernel_rfl }
def Tryf.lays198_ren : Go.Shelf.Ren := ⟨fun | 198 => 63 | 261 => 82 | 311 => 100 | 312 => 101 | n => n, fun | 21 => 21 | 4 => 4 | 141 => 91 | 0 => 0 | 196 => 122 | 193 => 119 | 3 => 3 | 51 => 118 | 198 => 125 | 49 => 123 | 194 => 120 | 201 => 128 | 226 => 137 | 46 => 70 | 227 => 138 | n => n, fun | 5 => 0 | n => n⟩
theorem Tryf.lays198 : Go.Proofs.Lays.n198 Tryf.prog Tryf.lays198_ren := {
  mixed := by kernel_rfl
  f198 := Tryf.func63.trans (congrArg some (by kernel_rfl))
  f261 := Tryf.func82.trans (congrArg some (by kernel_rfl))
  f311 := Tryf.func100.trans (congrArg some (by kernel_rfl))
  f312 := Tryf.func101.trans (congrArg some (by kernel_rfl))
  t0 := Tryf.underlying0
  a0 := Tryf.isAgg0
  z0 := Tryf.sizeOf0
  v0 := Tryf.zeroValue0
  t3 := Tryf.underlying3
  a3 := Tryf.isAgg3
  z3 := Tryf.sizeOf3
  v3 := Tryf.zeroValue3
  t4 := Tryf.underlying4
  a4 := Tryf.isAgg4
  z4 := Tryf.sizeOf4
  v4 := Tryf.zeroValue4
  t21 := Tryf.underlying21
  a21 := Tryf.isAgg21
  z21 := Tryf.sizeOf21
  v21 := Tryf.zeroValue21
  t46 := Tryf.underlying70
  a46 := Tryf.isAgg70
  z46 := Tryf.sizeOf70
  v46 := Tryf.zeroValue70
  t49 := Tryf.underlying123
  a49 := Tryf.isAgg123
  z49 := Tryf.sizeOf123
  v49 := Tryf.zeroValue123
  t51 := Tryf.underlying118
  a51 := Tryf.isAgg118
  z51 := Tryf.sizeOf118
  v51 := Tryf.zeroValue118
  t141 := Tryf.underlying91
  a141 := Tryf.isAgg91
  z141 := Tryf.sizeOf91
  v141 := Tryf.zeroValue91
  t193 := Tryf.underlying119
  a193 := Tryf.isAgg119
  z193 := Tryf.sizeOf119
  v193 := Tryf.zeroValue119
  t194 := Tryf.underlying120
  a194 := Tryf.isAgg120
  z194 := Tryf.sizeOf120
  v194 := Tryf.zeroValue120
  t196 := Tryf.underlying122
  a196 := Tryf.isAgg122
  z196 := Tryf.sizeOf122
  v196 := Tryf.zeroValue122
  t198 := Tryf.underlying125
  a198 := Tryf.isAgg125
  z198 := Tryf.sizeOf125
  v198 := Tryf.zeroValue125
  t201 := Tryf.underlying128
  a201 := Tryf.isAgg128
  z201 := Tryf.sizeOf128
  v201 := Tryf.zeroValue128
  t226 := Tryf.underlying137
  a226 := Tryf.isAgg137
  z226 := Tryf.sizeOf137
  v226 := Tryf.zeroValue137
  t227 := Tryf.underlying138
  a227 := Tryf.isAgg138
  z227 := Tryf.sizeOf138
  v227 := Tryf.zeroValue138
  g5 := by kernel_rfl }
def Tryf.lays199_ren : Go.Shelf.Ren := ⟨fun | 199 => 85 | 261 => 82 | 311 => 100 | 312 => 101 | n => n, fun | 21 => 21 | 4 => 4 | 51 => 118 | 141 => 91 | 0 => 0 | 196 => 122 | 193 => 119 | 3 => 3 | 198 => 125 | 49 => 123 | 194 => 120 | 201 => 128 | 226 => 137 | 46 => 70 | 227 => 138 | n => n, fun | 6 => 5 | n => n⟩
theorem Tryf.lays199 : Go.Proofs.Lays.n199 Tryf.prog Tryf.lays199_ren := {
  mixed := by kernel_rfl
  f199 := Tryf.func85.trans (congrArg some (by kernel_rfl))
  f261 := Tryf.func82.trans (congrArg some (by kernel_rfl))
  f311 := Tryf.func100.trans (congrArg some (by kernel_rfl))
  f312 := Tryf.func101.trans (congrArg some (by kernel_rfl))
  t0 := Tryf.underlying0
  a0 := Tryf.isAgg0
  z0 := Tryf.sizeOf0
  v0 := Tryf.zeroValue0
  t3 := Tryf.underlying3
  a3 := Tryf.isAgg3
  z3 := Tryf.sizeOf3
  v3 := Tryf.zeroValue3
  t4 := Tryf.underlying4
  a4 := Tryf.isAgg4
  z4 := Tryf.sizeOf4
  v4 := Tryf.zeroValue4
  t21 := Tryf.underlying21
  a21 := Tryf.isAgg21
  z21 := Tryf.sizeOf21
  v21 := Tryf.zeroValue21
  t46 := Tryf.underlying70
  a46 := Tryf.isAgg70
  z46 := Tryf.sizeOf70
  v46 := Tryf.zeroValue70
  t49 := Tryf.underlying123
  a49 := Tryf.isAgg123
  z49 := Tryf.sizeOf123
  v49 := Tryf.zeroValue123
  t51 := Tryf.underlying118
  a51 := Tryf.isAgg118
  z51 := Tryf.sizeOf118
  v51 := Tryf.zeroValue118
  t141 := Tryf.underlying91
  a141 := Tryf.isAgg91
  z141 := Tryf.sizeOf91
  v141 := Tryf.zeroValue91
  t193 := Tryf.underlying119
  a193 := Tryf.isAgg119
  z193 := Tryf.sizeOf119
  v193 := Tryf.zeroValue119
  t194 := Tryf.underlying120
  a194 := Tryf.isAgg120
  z194 := Tryf.sizeOf120
  v194 := Tryf.zeroValue120
  t196 := Tryf.underlying122
  a196 := Tryf.isAgg122
  z196 := Tryf.sizeOf122
  v196 := Tryf.zeroValue122
  t198 := Tryf.underlying125
  a198 := Tryf.isAgg125
  z198 := Tryf.sizeOf125
  v198 := Tryf.zeroValue125
  t201 := Tryf.underlying128
  a201 := Tryf.isAgg128
  z201 := Tryf.sizeOf128
  v201 := Tryf.zeroValue128
  t226 := Tryf.underlying137
  a226 := Tryf.isAgg137
  z226 := Tryf.sizeOf137
  v226 := Tryf.zeroValue137
  t227 := Tryf.underlying138
  a227 := Tryf.isAgg138
  z227 := Tryf.sizeOf138
  v227 := Tryf.zeroValue138
  g6 := by kernel_rfl }
def Tryf.lays200_ren : Go.Shelf.Ren := ⟨fun | 200 => 81 | 261 => 82 | 311 => 100 | 312 => 101 | n => n, fun | 21 => 21 | 4 => 4 | 51 => 118 | 5 => 5 | 119 => 114 | 0 => 0 | 141 => 91 | 196 => 122 | 193 => 119 | 3 => 3 | 198 => 125 | 49 => 123 | 194 => 120 | 201 => 128 | 226 => 137 | 46 => 70 | 227 => 138 | n => n, fun | 7 => 3 | 8 => 4 | n => n⟩
theorem Tryf.lays200 : Go.Proofs.Lays.n200 Tryf.prog Tryf.lays200_ren := {
  mixed := by kernel_rfl
  f200 := Tryf.func81.trans (congrArg some (by kernel_rfl))
  f261 := Tryf.func82.trans (congrArg some (by kernel_rfl))
  f311 := Tryf.func100.trans (congrArg some (by kernel_rfl))
  f312 := Tryf.func101.trans (congrArg some (by kernel_rfl))
  t0 := Tryf.underlying0
  a0 := Tryf.isAgg0
  z0 := Tryf.sizeOf0
  v0 := Tryf.zeroValue0
  t3 := Tryf.underlying3
  a3 := Tryf.isAgg3
  z3 := Tryf.sizeOf3
  v3 := Tryf.zeroValue3
  t4 := Tryf.underlying4
  a4 := Tryf.isAgg4
  z4 := Tryf.sizeOf4
  v4 := Tryf.zeroValue4
  t5 := Tryf.underlying5
  a5 := Tryf.isAgg5
  z5 := Tryf.sizeOf5
  v5 := Tryf.zeroValue5
  t21 := Tryf.underlying21
  a21 := Tryf.isAgg21
  z21 := Tryf.sizeOf21
  v21 := Tryf.zeroValue21
  t46 := Tryf.underlying70
  a46 := Tryf.isAgg70
  z46 := Tryf.sizeOf70
  v46 := Tryf.zeroValue70
  t49 := Tryf.underlying123
  a49 := Tryf.isAgg123
  z49 := Tryf.sizeOf123
  v49 := Tryf.zeroValue123
  t51 := Tryf.underlying118
  a51 := Tryf.isAgg118
  z51 := Tryf.sizeOf118
  v51 := Tryf.zeroValue118
  t119 := Tryf.underlying114
  a119 := Tryf.isAgg114
  z119 := Tryf.sizeOf114
  t141 := Tryf.underlying91
  a141 := Tryf.isAgg91
  z141 := Tryf.sizeOf91
  v141 := Tryf.zeroValue91
  t193 := Tryf.underlying119
  a193 := Tryf.isAgg119
  z193 := Tryf.sizeOf119
  v193 := Tryf.zeroValue119
  t194 := Tryf.underlying120
  a194 := Tryf.isAgg120
  z194 := Tryf.sizeOf120
  v194 := Tryf.zeroValue120
  t196 := Tryf.underlying122
  a196 := Tryf.isAgg122
  z196 := Tryf.sizeOf122
  v196 := Tryf.zeroValue122
  t198 := Tryf.underlying125
  a198 := Tryf.isAgg125
  z198 := Tryf.sizeOf125
  v198 := Tryf.zeroValue125
  t201 := Tryf.underlying128
  a201 := Tryf.isAgg128
  z201 := Tryf.sizeOf128
  v201 := Tryf.zeroValue128
  t226 := Tryf.underlying137
  a226 := Tryf.isAgg137
  z226 := Tryf.sizeOf137
  v226 := Tryf.zeroValue137
  t227 := Tryf.underlying138
  a227 := Tryf.isAgg138
  z227 := Tryf.sizeOf138
  v227 := Tryf.zeroValue138
  g7 := by kernel_rfl
  g8 := by kernel_rfl }
open Go.RowKit Go.Lib in
/-- **unicode/utf8.DecodeRuneInString AT EVERY STRING.** (LAID: no walk: one application.) -/
theorem Tryf.utf8_DecodeRuneInString (s : ByteArray) (w : World) (hT : Lib.Utf8Tabs 1 2 w) :
    Calls Tryf.prog 57 #[.string s] w fun e w' => e = .returned (.tuple #[.int .i32 (Lib.decodeGo s).1, .int .i64 (Lib.decodeGo s).2]) ∧ Below w.heap.size w w' := Any.utf8_DecodeRuneInString Tryf.lays197 s w hT
open Go.RowKit Go.Lib in
/-- **unicode.IsSpace AT EVERY int32.** (LAID: no walk: one application.) -/
theorem Tryf.unicode_IsSpace_any (r : Int) (w : World) (hlo : -2147483648 ≤ r) (hhi : r ≤ 2147483647) (hW : Lib.WhiteTab 5 w) :
    Calls Tryf.prog 85 #[.int .i32 r] w fun e w' => e = .returned (.bool (Lib.isSpaceZ r)) ∧ Below w.heap.size w w' := Any.unicode_IsSpace_any Tryf.lays199 r w hlo hhi hW
open Go.RowKit Go.Lib in
/-- **unicode/utf8.DecodeLastRuneInString AT EVERY STRING.** (LAID: no walk: one application.) -/
theorem Tryf.utf8_DecodeLastRuneInString (s : ByteArray) (w : World) (hs : s.size ≤ 9223372036854775807) (hT : Lib.Utf8Tabs 1 2 w) :
    Calls Tryf.prog 64 #[.string s] w fun e w' => e = .returned (.tuple #[.int .i32 (Lib.decodeLastL s.data.toList).1, .int .i64 (Lib.decodeLastL s.data.toList).2]) ∧ Below w.heap.size w w' := Any.utf8_DecodeLastRuneInString Tryf.lays271 s w hs hT
open Go.RowKit Go.Lib in
/-- unicode.IsLetter(r) AT EVERY int32, the tables as their initialisers lay them: 'Lib.isLetterU r'. (LAID: no walk: one application.) -/
theorem Tryf.unicode_IsLetter_all (r : Int) (w : World) (hlo : -2147483648 ≤ r) (hhi : r ≤ 2147483647) (htab : Lib.TabIs Tryf.prog w "unicode.properties" .u8 Lib.propertiesTab) (hV : RVar 4 letterT w) :
    Calls Tryf.prog 81 #[.int .i32 r] w fun e w' => e = .returned (.bool (isLetterU r)) ∧ Below w.heap.size w w' := Any.unicode_IsLetter_all Tryf.lays200 (by kernel_rfl) r w hlo hhi htab hV
open Go.RowKit Go.Lib in
/-- unicode.IsDigit(r) AT EVERY int32: 'Lib.isDigitU r'. (LAID: no walk: one application.) -/
theorem Tryf.unicode_IsDigit_all (r : Int) (w : World) (hlo : -2147483648 ≤ r) (hhi : r ≤ 2147483647) (hV : RVar 0 digitT w) :
    Calls Tryf.prog 63 #[.int .i32 r] w fun e w' => e = .returned (.bool (isDigitU r)) ∧ Below w.heap.size w w' := Any.unicode_IsDigit_all Tryf.lays198 r w hlo hhi hV
end Go.Proofs
