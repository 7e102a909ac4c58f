/-
  Small contracts: (Source).String hands back its text; utf8.DecodeRuneInString at a place of a text. Condition: the tables of unicode and unicode/utf8 hold what their initialisers lay.
-/
import Derived.Test.YtdlkdojgbiahgaaGreatFmtLxRing
import Derived.Test.YtdlkdojgbiahgaaGreatFmtLxWord
import Derived.Test.YtdlkdojgbiahgaaGreatFmtShelf
import Derived.WalkLawsBesides
import Derived.WalkSpells
import Derived.Deep.RegionHeld3
import Derived.Deep.QuietTactic
import Derived.BigQuiet
import Derived.Outline
import Derived.LoopTactic
import Derived.Deep.LoopGhost
import Derived.Laws.EntriesVeiled
namespace Go.Proofs.YtdlkdojgbiahgaaGreatFmt.Lx
open Go.RowKit Go.Lib

/-- Go's tables, as their initialisers lay them. -/
structure Tabs (w : World) : Prop where
  utf : Lib.Utf8Tabs 1 2 w
  props : Lib.TabIs Tryz.prog w "unicode.properties" .u8 Lib.propertiesTab
  letter : RVar 5 letterT w
  digit : RVar 0 digitT w
  white : Lib.WhiteTab 3 w
theorem Tabs.below {w w' : World} (h : Tabs w) (hb : Below w.heap.size w w') : Tabs w' := by
  refine ⟨⟨fun c hc => cell_below hb (h.utf.1 c hc), fun i hi => ⟨cell_below hb (h.utf.2 i hi).1, cell_below hb (h.utf.2 i hi).2⟩⟩, TabIs_below (by kernel_rfl : Tryz.prog.globalNamed "unicode.properties" = some 4) h.props hb, RVar_below h.letter hb, RVar_below h.digit hb, ?_⟩
  obtain ⟨T, oT, R, oR, h1, h2, h3, h4, h5⟩ := h.white
  exact ⟨T, oT, R, oR, cell_below hb h1, cell_below hb h2, cell_below hb h3, cell_below hb h4, fun i hi => cell_below hb (h5 i hi)⟩
/-- The tables lie below block B, and nothing below B has turned. -/
def Anch (B : Nat) (w : World) : Prop := ∃ w0, Tabs w0 ∧ w0.heap.size = B ∧ Below B w0 w
theorem Anch.start {w : World} (h : Tabs w) : Anch w.heap.size w := ⟨w, h, rfl, Below.refl _ _⟩
theorem Anch.tabs {B : Nat} {w : World} (h : Anch B w) : Tabs w := by
  obtain ⟨w0, h0, rfl, hb⟩ := h
  exact h0.below hb
theorem Anch.le {B : Nat} {w : World} (h : Anch B w) : B ≤ w.heap.size := by
  obtain ⟨w0, h0, rfl, hb⟩ := h
  exact hb.size
theorem Anch.below {B : Nat} {w w' : World} (h : Anch B w) (hb : Below w.heap.size w w') : Anch B w' := by
  have hl := h.le
  obtain ⟨w0, h0, e, hb0⟩ := h
  exact ⟨w0, h0, e, hb0.trans (hb.mono hl)⟩
theorem Anch.ch {B : Nat} {S : List Nat} {w w' : World} (h : Anch B w) (hc : Ch S w w') (hS : ∀ k, k ∈ S → B ≤ k) : Anch B w' := by
  have hl := h.le
  obtain ⟨w0, h0, e, hb0⟩ := h
  exact ⟨w0, h0, e, hb0.trans (hc.below hS hl)⟩
theorem Anch.ch1 {B L : Nat} {w w' : World} (h : Anch B w) (hc : Ch [L] w w') (hL : B ≤ L) : Anch B w' := h.ch hc (fun k hk => by simp at hk; omega)
theorem Anch.drew {B : Nat} {w : World} (h : Anch B w) : Anch B w.drew := by
  obtain ⟨w0, h0, e, hb0⟩ := h
  exact ⟨w0, h0, e, hb0.drew⟩

/-- file.Source's String. -/
theorem src_String (s : ByteArray) (w : World) : Calls Tryz.prog 41 #[.agg #[.string s]] w fun e w' => e = .returned (.string s) ∧ Below w.heap.size w w' := by
  go_enter Tryz.func41, Tryz.ntmps41
  go_wp2
  go_ret
  exact ⟨rfl, by first | exact Below.refl _ _ | exact (Below.refl _ _).alloc (Nat.le_refl _) _⟩

/-- The text from p on decodes as at p. -/
theorem decodeGo_at (s : ByteArray) (p : Nat) (h : p < s.size) : Lib.decodeGo (s.extract p s.size) = Utf8.decode s p := by
  unfold Lib.decodeGo
  rw [if_neg (by rw [ByteArray.size_extract]; omega)]
  have hg : ∀ k, bt (s.extract p s.size) (0 + k) = bt s (p + k) := by
    intro k
    rw [bt_getD, bt_getD, ByteArray.data_extract, Array.getElem?_extract]
    have hs : s.size = s.data.size := rfl
    split
    · rw [Nat.zero_add]
    · rw [Array.getElem?_eq_none (by omega)]
  rw [dec_eq, dec_eq, ByteArray.size_extract]
  have e0 := hg 0; have e1 := hg 1; have e2 := hg 2; have e3 := hg 3
  rw [Nat.add_zero] at e0
  rw [e0, e1, e2, e3, Nat.sub_zero, Nat.min_self, Nat.add_zero]
theorem decRune (s : ByteArray) (p : Nat) (h : p < s.size) (w : World) (hT : Tabs w) :
    Calls Tryz.prog 48 #[.string (s.extract p s.size)] w fun e w' => e = .returned (.tuple #[.int .i32 (dr s p : Int), .int .i64 (dw s p : Int)]) ∧ Below w.heap.size w w' := by
  have c := Tryz.utf8_DecodeRuneInString (s.extract p s.size) w hT.utf
  rw [decodeGo_at s p h] at c
  exact c

/-- The lexer stands as it stood, whatever was made besides. -/
structure Hold (B L : Nat) (x : LS) (w W : World) : Prop where
  lx : LX 60 W L x
  bel : Below w.heap.size w W
  anch : Anch B W
theorem Hold.start {B L : Nat} {x : LS} {w : World} (h : LX 60 w L x) (a : Anch B w) : Hold B L x w w := ⟨h, Below.refl _ _, a⟩
theorem Hold.drew {B L : Nat} {x : LS} {w W : World} (h : Hold B L x w W) : Hold B L x w W.drew := ⟨h.lx, h.bel.drew, h.anch.drew⟩
theorem Hold.step {B L : Nat} {x : LS} {w W W' : World} (h : Hold B L x w W) (hb : Below W.heap.size W W') : Hold B L x w W' :=
  ⟨h.lx.below hb, h.bel.trans (hb.mono h.bel.size), h.anch.below hb⟩
/-- What a region that reads the lexer's cells holds. -/
theorem Hold.s146 {B L : Nat} {x : LS} {w W : World} (h : Hold B L x w W) : W.cell? ⟨L, 1, none⟩ = some (.string x.s) ∧ W.cell? ⟨L, 4, none⟩ = some (.int .i64 (x.sb : Int)) ∧ W.cell? ⟨L, 6, none⟩ = some (.int .i64 (x.eb : Int)) ∧ Hold B L x w W :=
  ⟨h.lx.c1, h.lx.c4, h.lx.c6, h⟩
theorem Hold.s16 {B L : Nat} {x : LS} {w W : World} (h : Hold B L x w W) : W.cell? ⟨L, 1, none⟩ = some (.string x.s) ∧ W.cell? ⟨L, 6, none⟩ = some (.int .i64 (x.eb : Int)) ∧ Hold B L x w W :=
  ⟨h.lx.c1, h.lx.c6, h⟩

end Go.Proofs.YtdlkdojgbiahgaaGreatFmt.Lx
