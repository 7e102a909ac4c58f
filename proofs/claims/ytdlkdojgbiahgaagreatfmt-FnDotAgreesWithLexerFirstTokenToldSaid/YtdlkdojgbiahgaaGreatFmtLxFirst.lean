/-
  The lexer's first token from a place of rest: before an ASCII word, and at the end of the text. Conditions: lexer, ring and slots lie in new blocks, the tables are laid, the text has at most 2^30 bytes; what ends the word is ASCII.
-/
import Derived.Test.YtdlkdojgbiahgaaGreatFmtLxRoot
import Derived.Test.YtdlkdojgbiahgaaGreatFmtLxStep
namespace Go.Proofs.YtdlkdojgbiahgaaGreatFmt.Lx
open Go.RowKit Go.Lib

/-- A lexer at rest at place p: no error, nothing read. -/
def LS.rest (s : ByteArray) (tok st : Value) (p : Nat) (e dis : Bool) : LS := ⟨st, s, tok, .pointer none, p, p, p, p, e, dis⟩

theorem LQ.setSt {B : Nat} {y : LS} {w0 : Base} {w : World} {L R b n : Nat} {l : List Tk} (h : LQ B y w0 w L R b n l) (v : Value) : LQ B { y with st := v } w0 (w.setCell ⟨L, 0, none⟩ v) L R b n l :=
  h.step ((Ch.refl [L] w).setCell (p := ⟨L, 0, none⟩) (Or.inl (by simp)) v) (h.lx.s0 v) rfl
theorem LQ.ten {B : Nat} {y : LS} {w0 : Base} {w : World} {L R b n : Nat} {l : List Tk} (h : LQ B y w0 w L R b n l) : l.length = 10 := by
  rcases h.rq with ⟨D, a1, a2, a3, a4⟩ | ⟨_, _, _, rfl⟩
  · exact a4.ten
  · rfl

theorem enters_root : Enters Tryz.prog 35 := enters_of Tryz.func35 (by kernel_rfl) rfl
theorem enters_ident : Enters Tryz.prog 26 := enters_of Tryz.func26 (by kernel_rfl) rfl
theorem enters_not : Enters Tryz.prog 38 := enters_of Tryz.func38 (by kernel_rfl) rfl
theorem enters_dot : Enters Tryz.prog 23 := enters_of Tryz.func23 (by kernel_rfl) rfl
theorem enters_number : Enters Tryz.prog 33 := enters_of Tryz.func33 (by kernel_rfl) rfl

/-- What opens a word at p: an ASCII letter, underscore or dollar sign; no b or B ahead of a quote. -/
def Opens (s : ByteArray) (p : Nat) : Prop :=
  p < s.size ∧ an8 (bt s p) = true ∧ (bt s p = 36 ∨ 65 ≤ bt s p) ∧ (bt s p = 98 ∨ bt s p = 66 → (pk s (p + 1) == 39) = false ∧ (pk s (p + 1) == 34) = false)

/-- From root to identifier: the stages ahead of a word. -/
theorem stg_word (Fin : LS → Nat → Nat → List Tk → Tk → Prop) (B : Nat) (s : ByteArray) (tok : Value) (dis : Bool) (L R b k : Nat) (l : List Tk) (p : Nat) (ho : Opens s p) (hs : s.size ≤ 1073741824) (hb : b + 2 < 10)
    (hE : wrd s p < s.size → bt s (wrd s p) < 128)
    (hK : ∀ w0 W e, IdPost B (LS.rest s tok identV p false dis) w0 L R b 0 l (wrd s p) (s.extract p (wrd s p)) e W → ∃ y b n l v, e = .returned v ∧ FV v ∧ LQ B y w0 W L R b n l ∧ Stg Fin B w0 L R k (W.setCell ⟨L, 0, none⟩ v)) :
    ∀ w0 W, LQ B (LS.rest s tok rootV p false dis) w0 W L R b 0 l → Stg Fin B w0 L R (k + 2) W := by
  intro w0 W hq
  obtain ⟨h1, h2, h3, h4⟩ := ho
  refine ⟨_, b, l, 35, hq, rfl, rfl, enters_root, fun W1 hq1 => ?_⟩
  refine (root_word B (LS.rest s tok rootV p false dis) w0 W1 L R b 0 l p hq1 rfl h1 hs h2 h3 h4).mono ?_
  rintro e w1 ⟨rfl, hq2⟩
  refine ⟨_, b, 0, l, identV, rfl, Or.inr ⟨_, rfl⟩, hq2, ?_⟩
  have hq3 := hq2.setSt identV
  refine ⟨_, b, l, 26, hq3, rfl, rfl, enters_ident, fun W2 hq4 => ?_⟩
  refine (ident_LQ B (LS.rest s tok identV p false dis) w0 W2 L R b 0 l p hq4 (by omega) rfl (Nat.le_refl _) (Nat.le_of_lt h1) hs hE).mono ?_
  intro e w2 hi
  exact hK w0 w2 e hi

end Go.Proofs.YtdlkdojgbiahgaaGreatFmt.Lx
