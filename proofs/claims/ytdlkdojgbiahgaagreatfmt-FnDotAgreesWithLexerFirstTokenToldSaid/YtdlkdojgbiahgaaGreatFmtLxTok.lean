/-
  What Next hands back: over an ASCII word, over the word not, from the ring, at the end of the text. Conditions: lexer, ring and slots lie in new blocks, the tables are laid, the text has at most 2^30 bytes; what ends the word is ASCII.
-/
import Derived.Test.YtdlkdojgbiahgaaGreatFmtLxEof
namespace Go.Proofs.YtdlkdojgbiahgaaGreatFmt.Lx
open Go.RowKit Go.Lib

/-- Next's call. -/
abbrev NextCall (L : Nat) (w : World) (R : Ending → World → Prop) : Prop := Calls Tryz.prog 22 #[.pointer (some ⟨L, 0, none⟩)] w R

theorem set_at {l : List Tk} {b : Nat} (t : Tk) (h : l.length = 10) (hb : b < 10) : (l.set b t)[b]? = some t := by
  rw [List.getElem?_set_self (by omega)]

/-- A token that stands in the ring. -/
theorem next_held (B : Nat) (x : LS) (w00 : Base) (w : World) (L R b n : Nat) (l : List Tk) (t : Tk) (h : LQ B x w00 w L R b (n + 1) l) (hb : b + 1 < 10) (hn : n < 10) (ht : l[b]? = some t) (he : x.err = .pointer none) (hf : FV x.st) :
    NextCall L w fun e w' => e = .returned (.tuple #[t.val, .nilIface]) ∧ LQ B x w00 w' L R (b + 1) n (l.set b Tk.none) := by
  refine (next_tok (fun y b' n' l' t' => y = x ∧ b' = b ∧ n' = n ∧ l' = l ∧ t' = t) B x w00 w L R b (n + 1) l 0 h ?_).mono ?_
  · intro w0 W hq
    exact ⟨x, b, n, l, t, ⟨rfl, rfl, rfl, rfl, rfl⟩, hq, hb, hn, ht, he, hf⟩
  · rintro e w' ⟨y, b', n', l', t', ⟨rfl, rfl, rfl, rfl, rfl⟩, rfl, hq⟩
    exact ⟨rfl, hq⟩

/-- The first token over a word other than not. -/
theorem first_plain (B : Nat) (s : ByteArray) (tok : Value) (dis : Bool) (w00 : Base) (w : World) (L R b : Nat) (l : List Tk) (p : Nat) (h : LQ B (LS.rest s tok rootV p false dis) w00 w L R b 0 l) (ho : Opens s p) (hs : s.size ≤ 1073741824) (hb : b + 2 < 10) (hE : wrd s p < s.size → bt s (wrd s p) < 128) (hW : s.extract p (wrd s p) ≠ wNot) :
    NextCall L w fun e w' => e = .returned (.tuple #[(Tk.mk p (wrd s p) (wkind (s.extract p (wrd s p)) dis) (s.extract p (wrd s p))).val, .nilIface]) ∧ ∃ l', LQ B (LS.rest s tok rootV (wrd s p) false dis) w00 w' L R (b + 1) 0 l' := by
  obtain ⟨t, ht⟩ : ∃ t, Tk.mk p (wrd s p) (wkind (s.extract p (wrd s p)) dis) (s.extract p (wrd s p)) = t := ⟨_, rfl⟩
  refine (next_tok (fun y b' n' l' t' => y = LS.rest s tok rootV (wrd s p) false dis ∧ b' = b ∧ n' = 0 ∧ t' = t) B _ w00 w L R b 0 l 2 h ?_).mono ?_
  · refine stg_word _ B s tok dis L R b 0 l p ho hs hb hE ?_
    rintro w0 W e (⟨hN, rfl, hq⟩ | ⟨_, rfl, hq⟩)
    · exact absurd hN hW
    · have hq2 : LQ B (LS.rest s tok identV (wrd s p) false dis) w0 W L R b 1 (l.set b t) := by rw [← ht]; exact hq
      have hl := hq2.ten
      rw [List.length_set] at hl
      refine ⟨_, b, 1, l.set b t, rootV, rfl, Or.inr ⟨_, rfl⟩, hq2, ?_⟩
      exact ⟨_, b, 0, l.set b t, t, ⟨rfl, rfl, rfl, rfl⟩, hq2.setSt rootV, by omega, by omega, set_at t hl (by omega), rfl, Or.inr ⟨_, rfl⟩⟩
  · rintro e w' ⟨y, b', n', l', t', ⟨rfl, rfl, rfl, rfl⟩, rfl, hq⟩
    exact ⟨by rw [ht], _, hq⟩

/-- The first token over the word not. -/
theorem first_not (B : Nat) (s : ByteArray) (tok : Value) (dis : Bool) (w00 : Base) (w : World) (L R b : Nat) (l : List Tk) (p E P Q : Nat) (h : LQ B (LS.rest s tok rootV p false dis) w00 w L R b 0 l) (ho : Opens s p) (hs : s.size ≤ 1073741824) (hb : b + 2 < 10) (eE : wrd s p = E) (hE : E < s.size → bt s E < 128) (hW : s.extract p E = wNot) (eP : run s sp E = P) (eQ : wrd s P = Q) (hQ : Q < s.size → bt s Q < 128) :
    NextCall L w fun e w' => e = .returned (.tuple #[(Tk.mk p E kOp wNot).val, .nilIface]) ∧ ∃ l',
      (isNeg (s.extract P Q) = true ∧ LQ B (LS.rest s tok rootV Q false dis) w00 w' L R (b + 1) 1 l' ∧ l'[b + 1]? = some ⟨P, Q, kOp, s.extract P Q⟩) ∨
      (isNeg (s.extract P Q) = false ∧ LQ B (LS.rest s tok rootV P false dis) w00 w' L R (b + 1) 0 l') := by
  obtain ⟨t, ht⟩ : ∃ t, Tk.mk p E kOp wNot = t := ⟨_, rfl⟩
  obtain ⟨t2, ht2⟩ : ∃ t, Tk.mk P Q kOp (s.extract P Q) = t := ⟨_, rfl⟩
  have hEle := wrd_le s _ p (Nat.le_of_lt ho.1) rfl
  rw [eE] at hEle
  refine (next_tok (fun y b' n' l' t' => b' = b ∧ t' = t ∧ ((isNeg (s.extract P Q) = true ∧ y = LS.rest s tok rootV Q false dis ∧ n' = 1 ∧ l'[b + 1]? = some t2) ∨ (isNeg (s.extract P Q) = false ∧ y = LS.rest s tok rootV P false dis ∧ n' = 0))) B _ w00 w L R b 0 l 3 h ?_).mono ?_
  · refine stg_word _ B s tok dis L R b 1 l p ho hs hb (by rw [eE]; exact hE) ?_
    rw [eE]
    rintro w0 W e (⟨_, rfl, hq⟩ | ⟨hN, rfl, hq⟩)
    · refine ⟨_, b, 0, l, notV, rfl, Or.inr ⟨_, rfl⟩, hq, ?_⟩
      refine ⟨_, b, l, 38, hq.setSt notV, rfl, rfl, enters_not, fun W1 hq1 => ?_⟩
      refine (not_LQ B (LS.rest s tok notV p false dis) w0 W1 L R b 0 l E hq1 (by omega) rfl hEle.1 hEle.2 hs (by show wrd s (run s sp E) < s.size → bt s (wrd s (run s sp E)) < 128; rw [eP, eQ]; exact hQ)).mono ?_
      rintro e w2 ⟨rfl, hn⟩
      have e1 : run (LS.rest s tok notV p false dis).s sp E = P := eP
      have e2 : wrd (LS.rest s tok notV p false dis).s P = Q := eQ
      have e3 : (LS.rest s tok notV p false dis).s.extract (LS.rest s tok notV p false dis).sb E = wNot := hW
      rw [e1, e2, e3] at hn
      rcases hn with ⟨hg, hq2⟩ | ⟨hg, hq2⟩
      · have hq3 : LQ B (LS.rest s tok notV Q false dis) w0 w2 L R b 2 ((l.set b t).set (b + 1) t2) := by rw [← ht, ← ht2]; exact hq2
        have hl := hq3.ten
        rw [List.length_set, List.length_set] at hl
        refine ⟨_, b, 2, _, rootV, rfl, Or.inr ⟨_, rfl⟩, hq3, ?_⟩
        refine ⟨_, b, 1, _, t, ⟨rfl, rfl, Or.inl ⟨hg, rfl, rfl, ?_⟩⟩, hq3.setSt rootV, by omega, by omega, ?_, rfl, Or.inr ⟨_, rfl⟩⟩
        · exact set_at t2 (by rw [List.length_set]; exact hl) (by omega)
        · rw [List.getElem?_set_ne (by omega)]; exact set_at t hl (by omega)
      · have hq3 : LQ B (LS.rest s tok notV P false dis) w0 w2 L R b 1 (l.set b t) := by rw [← ht]; exact hq2
        have hl := hq3.ten
        rw [List.length_set] at hl
        refine ⟨_, b, 1, _, rootV, rfl, Or.inr ⟨_, rfl⟩, hq3, ?_⟩
        exact ⟨_, b, 0, _, t, ⟨rfl, rfl, Or.inr ⟨hg, rfl, rfl⟩⟩, hq3.setSt rootV, by omega, by omega, set_at t hl (by omega), rfl, Or.inr ⟨_, rfl⟩⟩
    · exact absurd hW hN
  · rintro e w' ⟨y, b', n', l', t', ⟨rfl, rfl, ⟨hg, rfl, rfl, h2⟩ | ⟨hg, rfl, rfl⟩⟩, rfl, hq⟩
    · refine ⟨by rw [ht], _, Or.inl ⟨hg, hq, ?_⟩⟩
      rw [List.getElem?_set_ne (by omega), ht2]; exact h2
    · exact ⟨by rw [ht], _, Or.inr ⟨hg, hq⟩⟩

/-- The token at the end of the text. -/
theorem first_eof (B : Nat) (s : ByteArray) (tok : Value) (dis : Bool) (w00 : Base) (w : World) (L R b : Nat) (l : List Tk) (h : LQ B (LS.rest s tok rootV s.size false dis) w00 w L R b 0 l) (hs : s.size ≤ 1073741824) (hb : b + 2 < 10) :
    NextCall L w fun e w' => e = .returned (.tuple #[(Tk.mk (s.size - 1) s.size eofT ⟨#[]⟩).val, .nilIface]) ∧ ∃ l', LQ B (LS.rest s tok .nilFunc s.size true dis) w00 w' L R (b + 1) 0 l' := by
  obtain ⟨t, ht⟩ : ∃ t, Tk.mk (s.size - 1) s.size eofT ⟨#[]⟩ = t := ⟨_, rfl⟩
  refine (next_tok (fun y b' n' l' t' => y = LS.rest s tok .nilFunc s.size true dis ∧ b' = b ∧ n' = 0 ∧ t' = t) B _ w00 w L R b 0 l 1 h ?_).mono ?_
  · intro w0 W hq
    refine ⟨_, b, l, 35, hq, rfl, rfl, enters_root, fun W1 hq1 => ?_⟩
    refine (root_eof B (LS.rest s tok rootV s.size false dis) w0 W1 L R b 0 l hq1 (by omega) (Nat.le_refl _) hs).mono ?_
    rintro e w1 ⟨rfl, hq2⟩
    have hq3 : LQ B (LS.rest s tok rootV s.size true dis) w0 w1 L R b 1 (l.set b t) := by rw [← ht]; exact hq2
    have hl := hq3.ten
    rw [List.length_set] at hl
    refine ⟨_, b, 1, _, .nilFunc, rfl, Or.inl rfl, hq3, ?_⟩
    exact ⟨_, b, 0, _, t, ⟨rfl, rfl, rfl, rfl⟩, hq3.setSt .nilFunc, by omega, by omega, set_at t hl (by omega), rfl, Or.inl rfl⟩
  · rintro e w' ⟨y, b', n', l', t', ⟨rfl, rfl, rfl, rfl⟩, rfl, hq⟩
    exact ⟨by rw [ht], _, hq⟩

end Go.Proofs.YtdlkdojgbiahgaaGreatFmt.Lx
