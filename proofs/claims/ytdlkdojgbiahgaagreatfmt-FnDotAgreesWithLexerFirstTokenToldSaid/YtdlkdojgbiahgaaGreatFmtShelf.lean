/-
  DERIVED: THE SHELF's CONTRACTS AT THIS DUMP, IN PLAIN WORDS (tools/lay-plain.mjs out of 'TryzShelf.lean', which tools/lay-shelf.mjs wrote): THE SAME DECLARATIONS UNDER THE SAME NAMES: 'import', 'namespace', 'open', 'def', 'theorem' AND NOTHING ELSE: no command of the shelf's: FOR A HAND-IN. Each laying: the table of numbers ('.._ren') and one theorem, a field a fact of the dump's own or the kernel's comparison; each contract: ONE APPLICATION.
-/
import Derived.Shelf.Small.Utf8
import Derived.Shelf.Small.Strs
import Derived.Shelf.Strings.Search1
import Derived.Shelf.Unicode.Latin
import Derived.Shelf.Unicode.Props
import Derived.Shelf.Unicode.DecodeSlow
import Derived.Shelf.Unicode.DecodeAny
import Derived.Shelf.Unicode.Is16White
import Derived.Shelf.Unicode.IsSpaceAny
import Derived.Shelf.Unicode.DecodeLast
import Derived.Shelf.Unicode.Is16Any
import Derived.Shelf.Unicode.Is32Any
import Derived.Shelf.Unicode.ExclAny
import Derived.Shelf.Unicode.PredsAny
import Derived.Shelf.Unicode.PredsPay
import Derived.Test.YtdlkdojgbiahgaaGreatFmtProg
namespace Go.Proofs
open Go.Shelf
def Tryz.lays197_ren : Go.Shelf.Ren := ⟨fun | 197 => 48 | 260 => 72 | n => n, fun | 9 => 9 | 21 => 21 | 3 => 3 | 4 => 4 | 5 => 5 | 105 => 85 | 119 => 116 | 0 => 0 | 46 => 117 | 139 => 120 | 138 => 119 | n => n, fun | 3 => 1 | 4 => 2 | n => n⟩
theorem Tryz.lays197 : Go.Proofs.Lays.n197 Tryz.prog Tryz.lays197_ren := {
  mixed := by kernel_rfl
  f197 := Tryz.func48.trans (congrArg some (by kernel_rfl))
  f260 := Tryz.func72.trans (congrArg some (by kernel_rfl))
  t0 := Tryz.underlying0
  a0 := Tryz.isAgg0
  z0 := Tryz.sizeOf0
  v0 := Tryz.zeroValue0
  t3 := Tryz.underlying3
  a3 := Tryz.isAgg3
  z3 := Tryz.sizeOf3
  v3 := Tryz.zeroValue3
  t4 := Tryz.underlying4
  a4 := Tryz.isAgg4
  z4 := Tryz.sizeOf4
  v4 := Tryz.zeroValue4
  t5 := Tryz.underlying5
  a5 := Tryz.isAgg5
  z5 := Tryz.sizeOf5
  v5 := Tryz.zeroValue5
  t9 := Tryz.underlying9
  a9 := Tryz.isAgg9
  z9 := Tryz.sizeOf9
  v9 := Tryz.zeroValue9
  t21 := Tryz.underlying21
  a21 := Tryz.isAgg21
  z21 := Tryz.sizeOf21
  v21 := Tryz.zeroValue21
  t46 := Tryz.underlying117
  a46 := Tryz.isAgg117
  z46 := Tryz.sizeOf117
  v46 := Tryz.zeroValue117
  t105 := Tryz.underlying85
  a105 := Tryz.isAgg85
  z105 := Tryz.sizeOf85
  v105 := Tryz.zeroValue85
  t119 := Tryz.underlying116
  a119 := Tryz.isAgg116
  z119 := Tryz.sizeOf116
  t138 := Tryz.underlying119
  a138 := Tryz.isAgg119
  z138 := Tryz.sizeOf119
  v138 := Tryz.zeroValue119
  t139 := Tryz.underlying120
  a139 := Tryz.isAgg120
  z139 := Tryz.sizeOf120
  v139 := Tryz.zeroValue120
  g3 := by kernel_rfl
  g4 := by kernel_rfl }
def Tryz.lays271_ren : Go.Shelf.Ren := ⟨fun | 271 => 51 | 120 => 74 | 197 => 48 | 260 => 72 | n => n, fun | 9 => 9 | 21 => 21 | 3 => 3 | 4 => 4 | 5 => 5 | 105 => 85 | 119 => 116 | 0 => 0 | 46 => 117 | 139 => 120 | 138 => 119 | n => n, fun | 3 => 1 | 4 => 2 | n => n⟩
theorem Tryz.lays271 : Go.Proofs.Lays.n271 Tryz.prog Tryz.lays271_ren := {
  mixed := by kernel_rfl
  f120 := Tryz.func74.trans (congrArg some (by kernel_rfl))
  f197 := Tryz.func48.trans (congrArg some (by kernel_rfl))
  f260 := Tryz.func72.trans (congrArg some (by kernel_rfl))
  f271 := Tryz.func51.trans (congrArg some (by kernel_rfl))
  t0 := Tryz.underlying0
  a0 := Tryz.isAgg0
  z0 := Tryz.sizeOf0
  v0 := Tryz.zeroValue0
  t3 := Tryz.underlying3
  a3 := Tryz.isAgg3
  z3 := Tryz.sizeOf3
  v3 := Tryz.zeroValue3
  t4 := Tryz.underlying4
  a4 := Tryz.isAgg4
  z4 := Tryz.sizeOf4
  v4 := Tryz.zeroValue4
  t5 := Tryz.underlying5
  a5 := Tryz.isAgg5
  z5 := Tryz.sizeOf5
  v5 := Tryz.zeroValue5
  t9 := Tryz.underlying9
  a9 := Tryz.isAgg9
  z9 := Tryz.sizeOf9
  v9 := Tryz.zeroValue9
  t21 := Tryz.underlying21
  a21 := Tryz.isAgg21
  z21 := Tryz.sizeOf21
  v21 := Tryz.zeroValue21
  t46 := Tryz.underlying117
  a46 := Tryz.isAgg117
  z46 := Tryz.sizeOf117
  v46 := Tryz.zeroValue117
  t105 := Tryz.underlying85
  a105 := Tryz.isAgg85
  z105 := Tryz.sizeOf85
  v105 := Tryz.zeroValue85
  t119 := Tryz.underlying116
  a119 := Tryz.isAgg116
  z119 := Tryz.sizeOf116
  t138 := Tryz.underlying119
  a138 := Tryz.isAgg119
  z138 := Tryz.sizeOf119
  v138 := Tryz.zeroValue119
  t139 := Tryz.underlying120
  a139 := Tryz.isAgg120
  z139 := Tryz.sizeOf120
  v139 := Tryz.zeroValue120
  g3 := by kernel_rfl
  g4 := by kernel_rfl }
def Tryz.lays198_ren : Go.Shelf.Ren := ⟨fun | 198 => 66 | 261 => 91 | 311 => 103 | 312 => 104 | n => n, fun | 21 => 21 | 4 => 4 | 141 => 112 | 0 => 0 | 196 => 131 | 193 => 128 | 3 => 3 | 51 => 121 | 198 => 134 | 49 => 132 | 194 => 129 | 201 => 137 | 226 => 142 | 46 => 117 | 227 => 143 | n => n, fun | 5 => 0 | n => n⟩
theorem Tryz.lays198 : Go.Proofs.Lays.n198 Tryz.prog Tryz.lays198_ren := {
  mixed := by kernel_rfl
  f198 := Tryz.func66.trans (congrArg some (by kernel_rfl))
  f261 := Tryz.func91.trans (congrArg some (by kernel_rfl))
  f311 := Tryz.func103.trans (congrArg some (by kernel_rfl))
  f312 := Tryz.func104.trans (congrArg some (by kernel_rfl))
  t0 := Tryz.underlying0
  a0 := Tryz.isAgg0
  z0 := Tryz.sizeOf0
  v0 := Tryz.zeroValue0
  t3 := Tryz.underlying3
  a3 := Tryz.isAgg3
  z3 := Tryz.sizeOf3
  v3 := Tryz.zeroValue3
  t4 := Tryz.underlying4
  a4 := Tryz.isAgg4
  z4 := Tryz.sizeOf4
  v4 := Tryz.zeroValue4
  t21 := Tryz.underlying21
  a21 := Tryz.isAgg21
  z21 := Tryz.sizeOf21
  v21 := Tryz.zeroValue21
  t46 := Tryz.underlying117
  a46 := Tryz.isAgg117
  z46 := Tryz.sizeOf117
  v46 := Tryz.zeroValue117
  t49 := Tryz.underlying132
  a49 := Tryz.isAgg132
  z49 := Tryz.sizeOf132
  v49 := Tryz.zeroValue132
  t51 := Tryz.underlying121
  a51 := Tryz.isAgg121
  z51 := Tryz.sizeOf121
  v51 := Tryz.zeroValue121
  t141 := Tryz.underlying112
  a141 := Tryz.isAgg112
  z141 := Tryz.sizeOf112
  v141 := Tryz.zeroValue112
  t193 := Tryz.underlying128
  a193 := Tryz.isAgg128
  z193 := Tryz.sizeOf128
  v193 := Tryz.zeroValue128
  t194 := Tryz.underlying129
  a194 := Tryz.isAgg129
  z194 := Tryz.sizeOf129
  v194 := Tryz.zeroValue129
  t196 := Tryz.underlying131
  a196 := Tryz.isAgg131
  z196 := Tryz.sizeOf131
  v196 := Tryz.zeroValue131
  t198 := Tryz.underlying134
  a198 := Tryz.isAgg134
  z198 := Tryz.sizeOf134
  v198 := Tryz.zeroValue134
  t201 := Tryz.underlying137
  a201 := Tryz.isAgg137
  z201 := Tryz.sizeOf137
  v201 := Tryz.zeroValue137
  t226 := Tryz.underlying142
  a226 := Tryz.isAgg142
  z226 := Tryz.sizeOf142
  v226 := Tryz.zeroValue142
  t227 := Tryz.underlying143
  a227 := Tryz.isAgg143
  z227 := Tryz.sizeOf143
  v227 := Tryz.zeroValue143
  g5 := by kernel_rfl }
def Tryz.lays199_ren : Go.Shelf.Ren := ⟨fun | 199 => 79 | 261 => 91 | 311 => 103 | 312 => 104 | n => n, fun | 21 => 21 | 4 => 4 | 51 => 121 | 141 => 112 | 0 => 0 | 196 => 131 | 193 => 128 | 3 => 3 | 198 => 134 | 49 => 132 | 194 => 129 | 201 => 137 | 226 => 142 | 46 => 117 | 227 => 143 | n => n, fun | 6 => 3 | n => n⟩
theorem Tryz.lays199 : Go.Proofs.Lays.n199 Tryz.prog Tryz.lays199_ren := {
  mixed := by kernel_rfl
  f199 := Tryz.func79.trans (congrArg some (by kernel_rfl))
  f261 := Tryz.func91.trans (congrArg some (by kernel_rfl))
  f311 := Tryz.func103.trans (congrArg some (by kernel_rfl))
  f312 := Tryz.func104.trans (congrArg some (by kernel_rfl))
  t0 := Tryz.underlying0
  a0 := Tryz.isAgg0
  z0 := Tryz.sizeOf0
  v0 := Tryz.zeroValue0
  t3 := Tryz.underlying3
  a3 := Tryz.isAgg3
  z3 := Tryz.sizeOf3
  v3 := Tryz.zeroValue3
  t4 := Tryz.underlying4
  a4 := Tryz.isAgg4
  z4 := Tryz.sizeOf4
  v4 := Tryz.zeroValue4
  t21 := Tryz.underlying21
  a21 := Tryz.isAgg21
  z21 := Tryz.sizeOf21
  v21 := Tryz.zeroValue21
  t46 := Tryz.underlying117
  a46 := Tryz.isAgg117
  z46 := Tryz.sizeOf117
  v46 := Tryz.zeroValue117
  t49 := Tryz.underlying132
  a49 := Tryz.isAgg132
  z49 := Tryz.sizeOf132
  v49 := Tryz.zeroValue132
  t51 := Tryz.underlying121
  a51 := Tryz.isAgg121
  z51 := Tryz.sizeOf121
  v51 := Tryz.zeroValue121
  t141 := Tryz.underlying112
  a141 := Tryz.isAgg112
  z141 := Tryz.sizeOf112
  v141 := Tryz.zeroValue112
  t193 := Tryz.underlying128
  a193 := Tryz.isAgg128
  z193 := Tryz.sizeOf128
  v193 := Tryz.zeroValue128
  t194 := Tryz.underlying129
  a194 := Tryz.isAgg129
  z194 := Tryz.sizeOf129
  v194 := Tryz.zeroValue129
  t196 := Tryz.underlying131
  a196 := Tryz.isAgg131
  z196 := Tryz.sizeOf131
  v196 := Tryz.zeroValue131
  t198 := Tryz.underlying134
  a198 := Tryz.isAgg134
  z198 := Tryz.sizeOf134
  v198 := Tryz.zeroValue134
  t201 := Tryz.underlying137
  a201 := Tryz.isAgg137
  z201 := Tryz.sizeOf137
  v201 := Tryz.zeroValue137
  t226 := Tryz.underlying142
  a226 := Tryz.isAgg142
  z226 := Tryz.sizeOf142
  v226 := Tryz.zeroValue142
  t227 := Tryz.underlying143
  a227 := Tryz.isAgg143
  z227 := Tryz.sizeOf143
  v227 := Tryz.zeroValue143
  g6 := by kernel_rfl }
def Tryz.lays200_ren : Go.Shelf.Ren := ⟨fun | 200 => 90 | 261 => 91 | 311 => 103 | 312 => 104 | n => n, fun | 21 => 21 | 4 => 4 | 51 => 121 | 5 => 5 | 119 => 116 | 0 => 0 | 141 => 112 | 196 => 131 | 193 => 128 | 3 => 3 | 198 => 134 | 49 => 132 | 194 => 129 | 201 => 137 | 226 => 142 | 46 => 117 | 227 => 143 | n => n, fun | 7 => 4 | 8 => 5 | n => n⟩
theorem Tryz.lays200 : Go.Proofs.Lays.n200 Tryz.prog Tryz.lays200_ren := {
  mixed := by kernel_rfl
  f200 := Tryz.func90.trans (congrArg some (by kernel_rfl))
  f261 := Tryz.func91.trans (congrArg some (by kernel_rfl))
  f311 := Tryz.func103.trans (congrArg some (by kernel_rfl))
  f312 := Tryz.func104.trans (congrArg some (by kernel_rfl))
  t0 := Tryz.underlying0
  a0 := Tryz.isAgg0
  z0 := Tryz.sizeOf0
  v0 := Tryz.zeroValue0
  t3 := Tryz.underlying3
  a3 := Tryz.isAgg3
  z3 := Tryz.sizeOf3
  v3 := Tryz.zeroValue3
  t4 := Tryz.underlying4
  a4 := Tryz.isAgg4
  z4 := Tryz.sizeOf4
  v4 := Tryz.zeroValue4
  t5 := Tryz.underlying5
  a5 := Tryz.isAgg5
  z5 := Tryz.sizeOf5
  v5 := Tryz.zeroValue5
  t21 := Tryz.underlying21
  a21 := Tryz.isAgg21
  z21 := Tryz.sizeOf21
  v21 := Tryz.zeroValue21
  t46 := Tryz.underlying117
  a46 := Tryz.isAgg117
  z46 := Tryz.sizeOf117
  v46 := Tryz.zeroValue117
  t49 := Tryz.underlying132
  a49 := Tryz.isAgg132
  z49 := Tryz.sizeOf132
  v49 := Tryz.zeroValue132
  t51 := Tryz.underlying121
  a51 := Tryz.isAgg121
  z51 := Tryz.sizeOf121
  v51 := Tryz.zeroValue121
  t119 := Tryz.underlying116
  a119 := Tryz.isAgg116
  z119 := Tryz.sizeOf116
  t141 := Tryz.underlying112
  a141 := Tryz.isAgg112
  z141 := Tryz.sizeOf112
  v141 := Tryz.zeroValue112
  t193 := Tryz.underlying128
  a193 := Tryz.isAgg128
  z193 := Tryz.sizeOf128
  v193 := Tryz.zeroValue128
  t194 := Tryz.underlying129
  a194 := Tryz.isAgg129
  z194 := Tryz.sizeOf129
  v194 := Tryz.zeroValue129
  t196 := Tryz.underlying131
  a196 := Tryz.isAgg131
  z196 := Tryz.sizeOf131
  v196 := Tryz.zeroValue131
  t198 := Tryz.underlying134
  a198 := Tryz.isAgg134
  z198 := Tryz.sizeOf134
  v198 := Tryz.zeroValue134
  t201 := Tryz.underlying137
  a201 := Tryz.isAgg137
  z201 := Tryz.sizeOf137
  v201 := Tryz.zeroValue137
  t226 := Tryz.underlying142
  a226 := Tryz.isAgg142
  z226 := Tryz.sizeOf142
  v226 := Tryz.zeroValue142
  t227 := Tryz.underlying143
  a227 := Tryz.isAgg143
  z227 := Tryz.sizeOf143
  v227 := Tryz.zeroValue143
  g7 := by kernel_rfl
  g8 := by kernel_rfl }
open Go.RowKit Go.Lib in
/-- **unicode/utf8.DecodeRuneInString AT EVERY STRING.** (LAID: no walk: one application.) -/
theorem Tryz.utf8_DecodeRuneInString (s : ByteArray) (w : World) (hT : Lib.Utf8Tabs 1 2 w) :
    Calls Tryz.prog 48 #[.string s] w fun e w' => e = .returned (.tuple #[.int .i32 (Lib.decodeGo s).1, .int .i64 (Lib.decodeGo s).2]) ∧ Below w.heap.size w w' := Any.utf8_DecodeRuneInString Tryz.lays197 s w hT
open Go.RowKit Go.Lib in
/-- **unicode.IsSpace AT EVERY int32.** (LAID: no walk: one application.) -/
theorem Tryz.unicode_IsSpace_any (r : Int) (w : World) (hlo : -2147483648 ≤ r) (hhi : r ≤ 2147483647) (hW : Lib.WhiteTab 3 w) :
    Calls Tryz.prog 79 #[.int .i32 r] w fun e w' => e = .returned (.bool (Lib.isSpaceZ r)) ∧ Below w.heap.size w w' := Any.unicode_IsSpace_any Tryz.lays199 r w hlo hhi hW
open Go.RowKit Go.Lib in
/-- **unicode/utf8.DecodeLastRuneInString AT EVERY STRING.** (LAID: no walk: one application.) -/
theorem Tryz.utf8_DecodeLastRuneInString (s : ByteArray) (w : World) (hs : s.size ≤ 9223372036854775807) (hT : Lib.Utf8Tabs 1 2 w) :
    Calls Tryz.prog 51 #[.string s] w fun e w' => e = .returned (.tuple #[.int .i32 (Lib.decodeLastL s.data.toList).1, .int .i64 (Lib.decodeLastL s.data.toList).2]) ∧ Below w.heap.size w w' := Any.utf8_DecodeLastRuneInString Tryz.lays271 s w hs hT
open Go.RowKit Go.Lib in
/-- unicode.IsLetter(r) AT EVERY int32, the tables as their initialisers lay them: 'Lib.isLetterU r'. (LAID: no walk: one application.) -/
theorem Tryz.unicode_IsLetter_all (r : Int) (w : World) (hlo : -2147483648 ≤ r) (hhi : r ≤ 2147483647) (htab : Lib.TabIs Tryz.prog w "unicode.properties" .u8 Lib.propertiesTab) (hV : RVar 5 letterT w) :
    Calls Tryz.prog 90 #[.int .i32 r] w fun e w' => e = .returned (.bool (isLetterU r)) ∧ Below w.heap.size w w' := Any.unicode_IsLetter_all Tryz.lays200 (by kernel_rfl) r w hlo hhi htab hV
open Go.RowKit Go.Lib in
/-- unicode.IsDigit(r) AT EVERY int32: 'Lib.isDigitU r'. (LAID: no walk: one application.) -/
theorem Tryz.unicode_IsDigit_all (r : Int) (w : World) (hlo : -2147483648 ≤ r) (hhi : r ≤ 2147483647) (hV : RVar 0 digitT w) :
    Calls Tryz.prog 66 #[.int .i32 r] w fun e w' => e = .returned (.bool (isDigitU r)) ∧ Below w.heap.size w w' := Any.unicode_IsDigit_all Tryz.lays198 r w hlo hhi hV
end Go.Proofs
