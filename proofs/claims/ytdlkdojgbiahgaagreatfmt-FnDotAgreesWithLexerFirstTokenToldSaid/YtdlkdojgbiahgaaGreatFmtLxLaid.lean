/-
  What the rows list gives (the six tables), and a world in which it is met.
-/
import Derived.Test.YtdlkdojgbiahgaaGreatFmtTie
import Derived.Test.YtdlkdojgbiahgaaGreatFmtCards
import Derived.Test.YtdlkdojgbiahgaaGreatFmtLxBase
import Derived.Deep.DeepWitnessRowRef
import Derived.Deep.DeepWitnessRef
import Derived.Lib.LaidIn
import Derived.Lib.LaidU8
import Derived.Lib.LaidRTab
import Derived.ProofKit
import Derived.Stop.JoinedAt
import Derived.Stop.LaidErr
import Derived.Stop.JoinedTold
namespace Go.Proofs.YtdlkdojgbiahgaaGreatFmt.Lx
open Go.Shelf Go.RowKit Go.Lib

theorem own : ownKnob Tryz.prog.godebug = none := by kernel_rfl
theorem xU : U8Extra Tryz.prog Tryz.lays197_ren := ⟨by kernel_rfl, by kernel_rfl, by kernel_rfl, by kernel_rfl, by kernel_rfl, by kernel_rfl, by kernel_rfl⟩
theorem xL : RExtra Tryz.prog Tryz.lays200_ren := ⟨by kernel_rfl, by kernel_rfl, by kernel_rfl, by kernel_rfl, by kernel_rfl, by kernel_rfl, by kernel_rfl, by kernel_rfl⟩
theorem xD : RExtra Tryz.prog Tryz.lays198_ren := ⟨by kernel_rfl, by kernel_rfl, by kernel_rfl, by kernel_rfl, by kernel_rfl, by kernel_rfl, by kernel_rfl, by kernel_rfl⟩
theorem xW : WhiteExtra Tryz.prog Tryz.lays199_ren := ⟨by kernel_rfl, by kernel_rfl, by kernel_rfl, by kernel_rfl, by kernel_rfl, by kernel_rfl, by kernel_rfl, by kernel_rfl⟩
theorem gP : Tryz.prog.globalNamed "unicode.properties" = some 4 := by kernel_rfl

theorem d_first : (Rows.laid_unicode_utf8_first : DataW Unit) = Lib.firstData := by kernel_rfl
theorem d_accept : (Rows.laid_unicode_utf8_acceptRanges : DataW Unit) = Lib.acceptData := by kernel_rfl
theorem d_white : (Rows.laid_unicode_White_Space : DataW Unit) = Lib.whiteData := by kernel_rfl
theorem d_props : (Rows.laid_unicode_properties : DataW Unit) = Lib.tabData .u8 Lib.propertiesTab := by kernel_rfl
theorem d_digit : Rows.laid_unicode_Digit = Lib.rtabData digitT := by kernel_rfl
theorem d_letter : Rows.laid_unicode_Letter = Lib.rtabData letterT := by kernel_rfl

/-- The rows' list. -/
def laidAll : List (String × DataW Unit) := [("unicode/utf8.acceptRanges", Rows.laid_unicode_utf8_acceptRanges), ("unicode.White_Space", Rows.laid_unicode_White_Space), ("unicode.properties", Rows.laid_unicode_properties), ("unicode.Digit", Rows.laid_unicode_Digit), ("unicode.Letter", Rows.laid_unicode_Letter), ("unicode/utf8.first", Rows.laid_unicode_utf8_first)]

theorem in0 : ("unicode/utf8.acceptRanges", (Rows.laid_unicode_utf8_acceptRanges : DataW Unit)) ∈ laidAll := .head _
theorem in1 : ("unicode.White_Space", (Rows.laid_unicode_White_Space : DataW Unit)) ∈ laidAll := .tail _ (.head _)
theorem in2 : ("unicode.properties", (Rows.laid_unicode_properties : DataW Unit)) ∈ laidAll := .tail _ (.tail _ (.head _))
theorem in3 : ("unicode.Digit", Rows.laid_unicode_Digit) ∈ laidAll := .tail _ (.tail _ (.tail _ (.head _)))
theorem in4 : ("unicode.Letter", Rows.laid_unicode_Letter) ∈ laidAll := .tail _ (.tail _ (.tail _ (.tail _ (.head _))))
theorem in5 : ("unicode/utf8.first", Rows.laid_unicode_utf8_first) ∈ laidAll := .tail _ (.tail _ (.tail _ (.tail _ (.tail _ (.head _)))))

theorem gPType : (Tryz.prog.globals[4]?).map (·.type) = some 116 := by kernel_rfl
theorem cells_byte : Tryz.prog.cellsOf 5 = 1 := by kernel_rfl
theorem cells_256 : Tryz.prog.cellsOf 116 = 256 := by kernel_rfl

/-- WHAT THE ROWS' LIST GIVES: the tables. -/
theorem tabs_of_laid {W : World} (h : laidMet Tryz.prog laidAll W) : Tabs W :=
  ⟨utf8Tabs_of_reads (ρ := Tryz.lays197_ren) { Tryz.lays197 with } xU (d_first ▸ Lib.laidMet.reads h in5) (d_accept ▸ Lib.laidMet.reads h in0),
   Lib.tabIs_of_head gP gPType Tryz.underlying116 Tryz.underlying5 cells_byte cells_256 (rest := [("unicode.Digit", Rows.laid_unicode_Digit), ("unicode.Letter", Rows.laid_unicode_Letter), ("unicode/utf8.first", Rows.laid_unicode_utf8_first)]) (d_props ▸ h.tail.tail),
   rvar_of_reads (ρ := Tryz.lays200_ren) { Tryz.lays200 with } xL (by kernel_rfl) (by kernel_rfl) (d_letter ▸ Lib.laidMet.reads h in4),
   rvar_of_reads (ρ := Tryz.lays198_ren) { Tryz.lays198 with } xD (by kernel_rfl) (by kernel_rfl) (d_digit ▸ Lib.laidMet.reads h in3),
   whiteTab_of_reads (ρ := Tryz.lays199_ren) Tryz.lays199 xW (d_white ▸ Lib.laidMet.reads h in1)⟩

/-- THE WITNESS's WORLD: the settled one with eight blocks more (the tables' rows and heads), the six variables holding what their initialisers lay. -/
noncomputable def laidWorld (os : Os) : World :=
  let N := (World.settled Tryz.prog os).heap.size
  let w0 := World.holding Tryz.prog os ⟨#[
    .cells (whiteT.map fun z : Nat => Value.int .u16 (z : Int)).toArray (Tryz.lays200_ren.t 198),
    .cells #[.slice (some ⟨N, 0, none⟩) 7 7, .slice none 0 0, .int .i64 2] (Tryz.lays200_ren.t 196),
    .cells (rgCells .u16 digitT.r16) (Tryz.lays200_ren.t 198), .cells (rgCells .u32 digitT.r32) (Tryz.lays200_ren.t 201),
    .cells #[.slice (some ⟨N + 2, 0, none⟩) digitT.r16.size digitT.r16.size, .slice (some ⟨N + 3, 0, none⟩) digitT.r32.size digitT.r32.size, .int .i64 digitT.off] (Tryz.lays200_ren.t 196),
    .cells (rgCells .u16 letterT.r16) (Tryz.lays200_ren.t 198), .cells (rgCells .u32 letterT.r32) (Tryz.lays200_ren.t 201),
    .cells #[.slice (some ⟨N + 5, 0, none⟩) letterT.r16.size letterT.r16.size, .slice (some ⟨N + 6, 0, none⟩) letterT.r32.size letterT.r32.size, .int .i64 letterT.off] (Tryz.lays200_ren.t 196)], #[], []⟩
  let put (h : Array Obj) (g : Nat) (cs : Array Value) : Array Obj := h.modify g fun
    | .cells _ t frozen => .cells cs t frozen
    | o => o
  let h1 := put w0.heap 4 (Lib.propertiesTab.map fun z => Value.int .u8 z).toArray
  let h2 := put h1 5 #[.pointer (some ⟨N + 7, 0, none⟩)]
  let h3 := put h2 1 (Lib.firstTab.map fun z => Value.int .u8 z).toArray
  let h4 := put h3 2 ((List.range 16).flatMap fun i => [Value.int .u8 (Lib.accLo i), Value.int .u8 (Lib.accHi i)]).toArray
  let h5 := put h4 0 #[.pointer (some ⟨N + 4, 0, none⟩)]
  let h6 := put h5 3 #[.pointer (some ⟨N + 1, 0, none⟩)]
  { w0 with heap := h6 }

noncomputable abbrev N0 : Nat := (World.settled Tryz.prog default).heap.size
set_option maxRecDepth 1000000 in
theorem piece0 (os : Os) (args : Array Value) : LaidIn Tryz.prog ((laidWorld os).forCall (fun _ _ => 0) ⟨#[], args, []⟩).memory [("unicode/utf8.acceptRanges", Rows.laid_unicode_utf8_acceptRanges), ("unicode.White_Space", Rows.laid_unicode_White_Space), ("unicode.properties", Rows.laid_unicode_properties)] [2, 3, N0 + 1, N0, 4] :=
  LaidIn.of_run [2, 3, N0 + 1, N0, 4] 8 (by kernel_rfl) (by kernel_rfl) (by kernel_rfl) (by kernel_rfl)
set_option maxRecDepth 1000000 in
theorem piece1 (os : Os) (args : Array Value) : LaidIn Tryz.prog ((laidWorld os).forCall (fun _ _ => 0) ⟨#[], args, []⟩).memory [("unicode.Digit", Lib.rtabData digitT)] [0, N0 + 4, N0 + 2, N0 + 3] :=
  laidIn_rtab (ρ := Tryz.lays198_ren) { Tryz.lays198 with } xD (by kernel_rfl) (by kernel_rfl) digitT (N0 + 4) (N0 + 2) (N0 + 3) (Tryz.lays200_ren.t 198) (Tryz.lays200_ren.t 201)
    (by kernel_rfl) (by kernel_rfl) (by kernel_rfl) (by kernel_rfl) (by kernel_rfl) (of_decide_eq_true (by kernel_rfl)) (of_decide_eq_true (by kernel_rfl)) (of_decide_eq_true (by kernel_rfl))
set_option maxRecDepth 1000000 in
theorem piece2 (os : Os) (args : Array Value) : LaidIn Tryz.prog ((laidWorld os).forCall (fun _ _ => 0) ⟨#[], args, []⟩).memory [("unicode.Letter", Lib.rtabData letterT)] [5, N0 + 7, N0 + 5, N0 + 6] :=
  laidIn_rtab (ρ := Tryz.lays200_ren) { Tryz.lays200 with } xL (by kernel_rfl) (by kernel_rfl) letterT (N0 + 7) (N0 + 5) (N0 + 6) (Tryz.lays200_ren.t 198) (Tryz.lays200_ren.t 201)
    (by kernel_rfl) (by kernel_rfl) (by kernel_rfl) (by kernel_rfl) (by kernel_rfl) (of_decide_eq_true (by kernel_rfl)) (of_decide_eq_true (by kernel_rfl)) (of_decide_eq_true (by kernel_rfl))
set_option maxRecDepth 1000000 in
theorem piece3 (os : Os) (args : Array Value) : LaidIn Tryz.prog ((laidWorld os).forCall (fun _ _ => 0) ⟨#[], args, []⟩).memory [("unicode/utf8.first", Lib.firstData)] [1] :=
  LaidIn.of_run [1] 8 (by kernel_rfl) (by kernel_rfl) (by kernel_rfl) (by kernel_rfl)

/-- The six variables are laid there. -/
theorem laid_met (os : Os) (args : Array Value) : laidMet Tryz.prog laidAll ((laidWorld os).forCall (fun _ _ => 0) ⟨#[], args, []⟩).memory :=
  ((piece0 os args).append ((d_digit ▸ piece1 os args : LaidIn _ _ [("unicode.Digit", Rows.laid_unicode_Digit)] _).append ((d_letter ▸ piece2 os args : LaidIn _ _ [("unicode.Letter", Rows.laid_unicode_Letter)] _).append (d_first ▸ piece3 os args : LaidIn _ _ [("unicode/utf8.first", Rows.laid_unicode_utf8_first)] _) (by kernel_rfl)) (by kernel_rfl)) (by kernel_rfl)).met

end Go.Proofs.YtdlkdojgbiahgaaGreatFmt.Lx
