/-
  What Next hands back first over the word not, whatever follows it. Conditions: lexer, ring and slots lie in new blocks, the tables are laid, the text has at most 2^30 bytes; what ends the word is ASCII.
-/
import Derived.Test.YtdlkdojgbiahgaaGreatFmtLxTok
import Derived.Test.YtdlkdojgbiahgaaGreatFmtLxNotAny
namespace Go.Proofs.YtdlkdojgbiahgaaGreatFmt.Lx
open Go.RowKit Go.Lib

theorem first_not_any (B : Nat) (s : ByteArray) (tok : Value) (dis : Bool) (w00 : Base) (w : World) (L R b : Nat) (l : List Tk) (p E : Nat) (h : LQ B (LS.rest s tok rootV p false dis) w00 w L R b 0 l) (ho : Opens s p) (hs : s.size ≤ 1073741824) (hb : b + 2 < 10) (eE : wrd s p = E) (hE : E < s.size → bt s E < 128) (hW : s.extract p E = wNot) (hE1 : 1 ≤ E) (hEa : bt s (E - 1) < 128) :
    NextCall L w fun e w' => e = .returned (.tuple #[(Tk.mk p E kOp wNot).val, .nilIface]) ∧ Below B w00.wd w' := by
  obtain ⟨t, ht⟩ : ∃ t, Tk.mk p E kOp wNot = t := ⟨_, rfl⟩
  have hEle := wrd_le s _ p (Nat.le_of_lt ho.1) rfl
  rw [eE] at hEle
  refine (next_tok (fun _ b' _ _ t' => b' = b ∧ t' = t) B _ w00 w L R b 0 l 3 h ?_).mono ?_
  · refine stg_word _ B s tok dis L R b 1 l p ho hs hb (by rw [eE]; exact hE) ?_
    rw [eE]
    rintro w0 W e (⟨_, rfl, hq⟩ | ⟨hN, rfl, hq⟩)
    · refine ⟨_, b, 0, l, notV, rfl, Or.inr ⟨_, rfl⟩, hq, ?_⟩
      refine ⟨_, b, l, 38, hq.setSt notV, rfl, rfl, enters_not, fun W1 hq1 => ?_⟩
      refine (not_any B (LS.rest s tok notV p false dis) w0 W1 L R b 0 l E hq1 (by omega) rfl hEle.1 hEle.2 hs hE1 hEa).mono ?_
      rintro e w2 ⟨rfl, y, n', l', hn', hq2, hl', hye, hys⟩
      have e3 : (LS.rest s tok notV p false dis).s.extract (LS.rest s tok notV p false dis).sb E = wNot := hW
      rw [e3] at hl'
      refine ⟨y, b, n', l', rootV, rfl, Or.inr ⟨_, rfl⟩, hq2, ?_⟩
      obtain ⟨m, hm, hm2⟩ : ∃ m, n' = m + 1 ∧ m ≤ 1 := by
        rcases hn' with h1 | h1
        · exact ⟨0, by omega, by omega⟩
        · exact ⟨1, by omega, by omega⟩
      subst hm
      exact ⟨_, b, m, l', t, ⟨rfl, rfl⟩, hq2.setSt rootV, by omega, by omega, by rw [← ht]; exact hl', hye, Or.inr ⟨_, rfl⟩⟩
    · exact absurd hW hN
  · rintro e w' ⟨y, b', n', l', t', ⟨rfl, rfl⟩, rfl, hq⟩
    exact ⟨by rw [ht], hq.bel⟩

end Go.Proofs.YtdlkdojgbiahgaaGreatFmt.Lx
