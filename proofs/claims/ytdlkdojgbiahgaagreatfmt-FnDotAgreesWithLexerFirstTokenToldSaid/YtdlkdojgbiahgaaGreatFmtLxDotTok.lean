/-
  What Next hands back first over a source that opens with a full stop, where no numeral is refused. Conditions: lexer, ring and slots lie in new blocks, the tables are laid, the text has at most 2^30 bytes.
-/
import Derived.Test.YtdlkdojgbiahgaaGreatFmtLxDot
namespace Go.Proofs.YtdlkdojgbiahgaaGreatFmt.Lx
open Go.RowKit Go.Lib

/-- From root to dot. -/
theorem stg_dot (Fin : LS → Nat → Nat → List Tk → Tk → Prop) (B : Nat) (s : ByteArray) (tok : Value) (L R k : Nat) (l : List Tk) (h0 : 0 < s.size) (h46 : bt s 0 = 46) (hs : s.size ≤ 1073741824)
    (hK : ∀ w0 W, LQ B (LS.rest s tok dotV 0 false false) w0 W L R 0 0 l → Calls Tryz.prog 23 #[.pointer (some ⟨L, 0, none⟩)] W fun e w' => ∃ y b n l v, e = .returned v ∧ FV v ∧ LQ B y w0 w' L R b n l ∧ Stg Fin B w0 L R k (w'.setCell ⟨L, 0, none⟩ v)) :
    ∀ w0 W, LQ B (LS.rest s tok rootV 0 false false) w0 W L R 0 0 l → Stg Fin B w0 L R (k + 2) W := by
  intro w0 W hq
  refine ⟨_, 0, l, 35, hq, rfl, rfl, enters_root, fun W1 hq1 => ?_⟩
  refine (root_dot B (LS.rest s tok rootV 0 false false) w0 W1 L R 0 0 l 0 hq1 rfl h0 hs h46).mono ?_
  rintro e w1 ⟨rfl, hq2⟩
  refine ⟨_, 0, 0, l, dotV, rfl, Or.inr ⟨_, rfl⟩, hq2, ?_⟩
  exact ⟨_, 0, l, 23, hq2.setSt dotV, rfl, rfl, enters_dot, fun W2 hq4 => hK w0 W2 hq4⟩

/-- dot's own token. -/
theorem first_dot (B : Nat) (s : ByteArray) (tok : Value) (w00 : Base) (w : World) (L R : Nat) (l : List Tk) (h : LQ B (LS.rest s tok rootV 0 false false) w00 w L R 0 0 l) (h0 : 0 < s.size) (h46 : bt s 0 = 46) (hs : s.size ≤ 1073741824) (ha : acc s DD 1 = false) :
    NextCall L w fun e w' => e = .returned (.tuple #[(Tk.mk 0 (dE s 0) kOp (s.extract 0 (dE s 0))).val, .nilIface]) ∧ Below B w00.wd w' := by
  obtain ⟨t, ht⟩ : ∃ t, Tk.mk 0 (dE s 0) kOp (s.extract 0 (dE s 0)) = t := ⟨_, rfl⟩
  refine (next_tok (fun _ b' _ _ t' => b' = 0 ∧ t' = t) B _ w00 w L R 0 0 l 2 h ?_).mono ?_
  · refine stg_dot _ B s tok L R 0 l h0 h46 hs ?_
    intro w0 W hq
    refine (dot_no B (LS.rest s tok dotV 0 false false) w0 W L R 0 0 l 0 hq (by omega) (Nat.le_refl _) h0 hs h46 ha).mono ?_
    rintro e w2 ⟨rfl, hq2⟩
    have hq3 : LQ B (LS.rest s tok dotV (dE s 0) false false) w0 w2 L R 0 1 (l.set 0 t) := by rw [← ht]; exact hq2
    have hl := hq3.ten
    rw [List.length_set] at hl
    refine ⟨_, 0, 1, l.set 0 t, rootV, rfl, Or.inr ⟨_, rfl⟩, hq3, ?_⟩
    exact ⟨_, 0, 0, l.set 0 t, t, ⟨rfl, rfl⟩, hq3.setSt rootV, by omega, by omega, set_at t hl (by omega), rfl, Or.inr ⟨_, rfl⟩⟩
  · rintro e w' ⟨y, b', n', l', t', ⟨rfl, rfl⟩, rfl, hq⟩
    exact ⟨by rw [ht], hq.bel⟩

/-- A number that opens with the full stop. -/
theorem first_num (B : Nat) (s : ByteArray) (tok : Value) (w00 : Base) (w : World) (L R : Nat) (l : List Tk) (h : LQ B (LS.rest s tok rootV 0 false false) w00 w L R 0 0 l) (h0 : 0 < s.size) (h46 : bt s 0 = 46) (hs : s.size ≤ 1073741824) (ha : acc s DD 1 = true) (hok : okN s 1 = true) :
    NextCall L w fun e w' => e = .returned (.tuple #[(Tk.mk 0 (eN s 1) kNum (s.extract 0 (eN s 1))).val, .nilIface]) ∧ Below B w00.wd w' := by
  obtain ⟨t, ht⟩ : ∃ t, Tk.mk 0 (eN s 1) kNum (s.extract 0 (eN s 1)) = t := ⟨_, rfl⟩
  have hlt := acc_lt ha
  refine (next_tok (fun _ b' _ _ t' => b' = 0 ∧ t' = t) B _ w00 w L R 0 0 l 3 h ?_).mono ?_
  · refine stg_dot _ B s tok L R 1 l h0 h46 hs ?_
    intro w0 W hq
    refine (dot_yes B (LS.rest s tok dotV 0 false false) w0 W L R 0 0 l 0 hq rfl h0 hs h46 ha).mono ?_
    rintro e w2 ⟨rfl, hq2⟩
    refine ⟨_, 0, 0, l, numberV, rfl, Or.inr ⟨_, rfl⟩, hq2, ?_⟩
    refine ⟨_, 0, l, 33, hq2.setSt numberV, rfl, rfl, enters_number, fun W2 hq4 => ?_⟩
    refine (number_ok B (LS.rest s tok numberV 0 false false) w0 W2 L R 0 0 l 1 hq4 (by omega) (by show 0 ≤ 1; omega) (by show 1 ≤ s.size; omega) hs hok).mono ?_
    rintro e w3 ⟨rfl, hq5⟩
    have hq3 : LQ B (LS.rest s tok numberV (eN s 1) false false) w0 w3 L R 0 1 (l.set 0 t) := by rw [← ht]; exact hq5
    have hl := hq3.ten
    rw [List.length_set] at hl
    refine ⟨_, 0, 1, l.set 0 t, rootV, rfl, Or.inr ⟨_, rfl⟩, hq3, ?_⟩
    exact ⟨_, 0, 0, l.set 0 t, t, ⟨rfl, rfl⟩, hq3.setSt rootV, by omega, by omega, set_at t hl (by omega), rfl, Or.inr ⟨_, rfl⟩⟩
  · rintro e w' ⟨y, b', n', l', t', ⟨rfl, rfl⟩, rfl, hq⟩
    exact ⟨by rw [ht], hq.bel⟩

end Go.Proofs.YtdlkdojgbiahgaaGreatFmt.Lx
