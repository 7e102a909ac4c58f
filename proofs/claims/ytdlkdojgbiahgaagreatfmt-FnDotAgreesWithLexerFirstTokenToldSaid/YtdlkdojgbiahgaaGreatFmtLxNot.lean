/-
  The contract of not (the lexer's state behind the word "not"). Conditions: lexer, ring and slots lie in new blocks, the tables are laid, the text has at most 2^30 bytes; what ends the next word is ASCII.
-/
import Derived.Test.YtdlkdojgbiahgaaGreatFmtLxBack
namespace Go.Proofs.YtdlkdojgbiahgaaGreatFmt.Lx
open Go.RowKit Go.Lib

/-- Two tokens or one. -/
def NotPost (B : Nat) (x : LS) (w0 : Base) (L R b n : Nat) (l : List Tk) (p P Q : Nat) (W W2 : ByteArray) (e : Ending) (w' : World) : Prop :=
  e = .returned rootV ∧
  ((isNeg W2 = true ∧ LQ B { x with sb := Q, sr := Q, eb := Q, er := Q } w0 w' L R b (n + 2) ((l.set (b + n) ⟨x.sr, p, kOp, W⟩).set (b + (n + 1)) ⟨P, Q, kOp, W2⟩)) ∨
   (isNeg W2 = false ∧ LQ B { x with sb := P, sr := P, eb := P, er := P } w0 w' L R b (n + 1) (l.set (b + n) ⟨x.sr, p, kOp, W⟩)))

set_option maxHeartbeats 8000000 in
theorem not_LQ (B : Nat) (x : LS) (w0 : Base) (w : World) (L R b n : Nat) (l : List Tk) (p : Nat) (h : LQ B (x.at p p) w0 w L R b n l) (hr : b + n + 1 < 10) (he : x.eof = false) (hsb : x.sb ≤ p) (hp : p ≤ x.s.size) (hs : x.s.size ≤ 1073741824) (hE : wrd x.s (run x.s sp p) < x.s.size → bt x.s (wrd x.s (run x.s sp p)) < 128) :
    Calls Tryz.prog 38 #[.pointer (some ⟨L, 0, none⟩)] w (NotPost B x w0 L R b n l p (run x.s sp p) (wrd x.s (run x.s sp p)) (x.s.extract x.sb p) (x.s.extract (run x.s sp p) (wrd x.s (run x.s sp p)))) := by
  have hP := run_le' x.s sp p hp
  obtain ⟨P, hPe⟩ : ∃ P, run x.s sp p = P := ⟨_, rfl⟩
  have hQ := wrd_le x.s _ (run x.s sp p) hP.2 rfl
  have ce := emit_LQ B (x.at p p) w0 w L R b n l kOp h (by omega) hsb hp hs
  have cs := fun w2 hq => skipSpaces_LQ B { x with sb := p, sr := p } w0 w2 L R b (n + 1) (l.set (b + n) ⟨x.sr, p, kOp, x.s.extract x.sb p⟩) p hq hs hp
  have cs2 : ∀ w2, LQ B { x with sb := p, sr := p, eb := p, er := p } w0 w2 L R b (n + 1) (l.set (b + n) ⟨x.sr, p, kOp, x.s.extract x.sb p⟩) → Calls Tryz.prog 67 #[.pointer (some ⟨L, 0, none⟩)] w2 fun e w' => e = .returned (.tuple #[]) ∧ LQ B { x with sb := run x.s sp p, sr := run x.s sp p, eb := run x.s sp p, er := run x.s sp p } w0 w' L R b (n + 1) (l.set (b + n) ⟨x.sr, p, kOp, x.s.extract x.sb p⟩) := fun w2 hq => cs w2 hq
  rw [hPe] at hE hP hQ cs2 ⊢
  obtain ⟨Q, hQe⟩ : ∃ Q, wrd x.s P = Q := ⟨_, rfl⟩
  rw [hQe] at hE hQ ⊢
  obtain ⟨W2, hW2⟩ : ∃ W2, x.s.extract P Q = W2 := ⟨_, rfl⟩
  rw [hW2]
  obtain ⟨W, hW⟩ : ∃ W, x.s.extract x.sb p = W := ⟨_, rfl⟩
  have e0 : (x.at p p).s.extract (x.at p p).sb (x.at p p).eb = W := hW
  rw [hW] at cs2 ⊢
  rw [e0] at ce
  have HS := Lib.hid cs2
  have H0 := Lib.hid hQe
  have HE := Lib.hid hE
  have HW2 := Lib.hid hW2
  clear cs cs2 hPe hQe hE hW2 hW e0 h
  go_enter Tryz.func38, Tryz.ntmps38
  go_wp2_with (fail)
  refine ce.mono ?_
  rintro e w1 ⟨rfl, h1⟩
  clear ce
  go_wp2_with (fail)
  refine (HS.out _ h1).mono ?_
  rintro e w2 ⟨rfl, h2⟩
  clear h1 HS
  have d6 := h2.lx.c6
  have d7 := h2.lx.c7
  simp only at d6 d7
  go_wp2_with (fail)
  generalize hX : w2.alloc _ = X
  have hbX : Below w2.heap.size w2 X := by rw [← hX]; exact (Below.refl _ _).alloc (Nat.le_refl _) _
  obtain ⟨K, hK⟩ : ∃ K, w2.heap.size = K := ⟨_, rfl⟩
  have hblk : ∃ T : Nat, X.heap[K]? = some (.cells #[.int .i64 (P : Int), .int .i64 (P : Int)] T (0, 0)) := by rw [← hX, ← hK]; exact ⟨_, alloc_new w2 _⟩
  have hLK : K ≠ L := by have := h2.lx.lt; omega
  have hqX := h2.below hbX
  obtain ⟨y, hy⟩ : ∃ y, ({ x with sb := P, sr := P, eb := P, er := P } : LS) = y := ⟨_, rfl⟩
  rw [hy] at hqX
  have y1 : y.s = x.s := by rw [← hy]
  have y2 : y.eof = false := by rw [← hy]; exact he
  have y3 : ∀ q, y.at q q = { x with sb := P, sr := P, eb := q, er := q } := fun q => by rw [← hy]; rfl
  have y4 : y = y.at P P := by rw [y3]; exact hy.symm
  have hsc : Sc B L y X X P := ⟨Ch.refl _ _, hqX.anch, by rw [← y4]; exact hqX.lx⟩
  have HX := Lib.hid hqX
  have Y1 := Lib.hid y1
  have Y3 := Lib.hid y3
  have hB := hqX.bL
  have hys : y.s.size ≤ 1073741824 := by rw [y1]; exact hs
  rw [← y1] at H0 HE hQ
  have HB := Lib.hid hblk
  rw [hK]
  clear hX hbX hK hblk h2 hqX y1 y3 y4 hy d6 d7 he
  go_loopg [] (y.s.size + 1 - P) (fun k wr => ∃ m, P ≤ m ∧ m ≤ Q ∧ k = y.s.size + 1 - m ∧ Hid (wrd y.s m = Q) ∧ Sc B L y X wr m)
  case atStart => exact ⟨P, Nat.le_refl _, hQ.1, rfl, H0, hsc⟩
  case round =>
    clear hsc H0
    obtain ⟨m, hm0, hm, hk, H1, hq⟩ := hrel
    have HK := Lib.hid hk
    clear hk
    by_cases hc : m < y.s.size ∧ an8 (bt y.s m) = true
    · obtain ⟨hlt, ha⟩ := hc
      have h8 := an8_lt ha
      have cn := nextS B L y X wr m hq hB hys hlt h8
      have H2 : Hid (wrd y.s (m + 1) = Q) := (wrd_yes hlt ha).symm.trans H1.out
      have hm2 : m + 1 ≤ Q := by
        have := wrd_le y.s _ (m + 1) hlt rfl
        rw [H2.out] at this
        exact this.1
      have cu := fun W2 (hT : Tabs W2) => alnum_any (bt y.s m : Int) W2 hT (by omega) (by omega)
      rw [anU_ascii h8, ha] at cu
      have HC := Lib.hid cu
      clear cu ha hq H1 y2
      go_wp2_with (first | (go_at_call 30; refine cn.mono ?_; rintro e w1 ⟨rfl, h1⟩) | (go_at_call 36; refine (HC.out _ h1.anch.tabs).mono ?_; rintro e w2 ⟨rfl, hb2⟩))
      have h2 := h1.below hb2
      go_roundg (y.s.size + 1 - (m + 1))
      case measure => have := HK.out; omega
      case rel => exact ⟨m + 1, by omega, hm2, rfl, H2, h2⟩
    · have hmE : m = Q := by
        rw [← H1.out]
        by_cases hlt : m < y.s.size
        · have ha : an8 (bt y.s m) = false := by
            cases hx : an8 (bt y.s m) with
            | false => rfl
            | true => exact absurd ⟨hlt, hx⟩ hc
          exact (wrd_no ha).symm
        · exact (wrd_end hlt).symm
      subst hmE
      clear HK H1 hm
      have cn := next_stopS B L y X wr m hq hB hys (fun hlt => ⟨HE.out hlt, by
        cases hx : an8 (bt y.s m) with
        | false => rfl
        | true => exact absurd ⟨hlt, hx⟩ hc⟩)
      have cu := fun (r : Int) W2 (h1 : BkS B L y X W2 m) (ha : anU r = false) h2 h3 => ha ▸ alnum_any r W2 h1.tabs h2 h3
      have HC := Lib.hid cu
      have ck := fun W2 hq2 => backupS B L y X W2 m hq2 hB hys y2
      have HK := Lib.hid ck
      have cw := fun W2 (hq2 : Sc B L y X W2 m) => word_any B L (y.at m m) W2 hq2.lx hq2.anch (by rw [Y3.out]; exact hm0) (by show m ≤ y.s.size; omega) hys
      have e1 : (y.at m m).s.extract (y.at m m).sb (y.at m m).eb = W2 := by rw [Y3.out]; exact HW2.out
      rw [e1] at cw
      have HD := Lib.hid cw
      clear cu ck cw hc hq y2
      go_wp2_with (fail)
      refine cn.mono ?_
      rintro e w1 ⟨r, rfl, hr1, hr2, hr3, h1⟩
      have cu := HC.out r _ h1 hr1 hr2 hr3
      clear HC cn hr1 hr2 hr3
      go_wp2_with (fail)
      refine cu.mono ?_
      rintro e w2 ⟨rfl, hb2⟩
      have h2 := HK.out _ (h1.below hb2)
      clear HK cu hb2 h1
      go_wp2_with (fail)
      refine h2.mono ?_
      rintro e w3 ⟨rfl, h3⟩
      have cw := HD.out _ h3
      have H3 := Lib.hid h3
      clear h2 h3 HD
      go_wp2_with (fail)
      refine cw.mono ?_
      rintro e w4 ⟨rfl, hb4⟩
      clear cw
      have h4 := H3.out.below hb4
      clear H3 hb4
      have hq4 := HX.out.step h4.ch h4.lx rfl
      rw [Y3.out] at hq4
      have hk4 : ∃ T : Nat, w4.heap[K]? = some (.cells #[.int .i64 (P : Int), .int .i64 (P : Int)] T (0, 0)) := by
        obtain ⟨T, hT⟩ := HB.out
        exact ⟨T, h4.ch.keep hT (by simpa using hLK)⟩
      have hms : m ≤ x.s.size := by
        have := Y1.out
        rw [this] at hQ
        exact hQ.2
      clear h4 HX HB Y3 Y1 HE hB hQ hys
      by_cases q0 : W2 = (⟨#[105, 110]⟩ : ByteArray)
      · have f0 := lit_yes (l := [105, 110]) q0
        have HN : Hid (isNeg W2 = true) := decide_eq_true (Or.inl q0)
        have c5 := emit_LQ B { x with sb := P, sr := P, eb := m, er := m } w0 w4 L R b (n + 1) _ kOp hq4 (by omega) hm0 hms hs
        simp only [HW2.out] at c5
        have HF := Lib.hid c5
        clear q0 c5 hq4 hk4
        go_wp2_with (go_at_call 34; refine HF.out.mono ?_; rintro e w5 ⟨rfl, h5⟩)
        go_ret
        exact ⟨rfl, Or.inl ⟨HN.out, h5⟩⟩
      by_cases q1 : W2 = (⟨#[109, 97, 116, 99, 104, 101, 115]⟩ : ByteArray)
      · have f0 := lit_no (l := [105, 110]) q0
        have f1 := lit_yes (l := [109, 97, 116, 99, 104, 101, 115]) q1
        have HN : Hid (isNeg W2 = true) := decide_eq_true (Or.inr (Or.inl q1))
        have c5 := emit_LQ B { x with sb := P, sr := P, eb := m, er := m } w0 w4 L R b (n + 1) _ kOp hq4 (by omega) hm0 hms hs
        simp only [HW2.out] at c5
        have HF := Lib.hid c5
        clear q0 q1 c5 hq4 hk4
        go_wp2_with (go_at_call 34; refine HF.out.mono ?_; rintro e w5 ⟨rfl, h5⟩)
        go_ret
        exact ⟨rfl, Or.inl ⟨HN.out, h5⟩⟩
      by_cases q2 : W2 = (⟨#[99, 111, 110, 116, 97, 105, 110, 115]⟩ : ByteArray)
      · have f0 := lit_no (l := [105, 110]) q0
        have f1 := lit_no (l := [109, 97, 116, 99, 104, 101, 115]) q1
        have f2 := lit_yes (l := [99, 111, 110, 116, 97, 105, 110, 115]) q2
        have HN : Hid (isNeg W2 = true) := decide_eq_true (Or.inr (Or.inr (Or.inl q2)))
        have c5 := emit_LQ B { x with sb := P, sr := P, eb := m, er := m } w0 w4 L R b (n + 1) _ kOp hq4 (by omega) hm0 hms hs
        simp only [HW2.out] at c5
        have HF := Lib.hid c5
        clear q0 q1 q2 c5 hq4 hk4
        go_wp2_with (go_at_call 34; refine HF.out.mono ?_; rintro e w5 ⟨rfl, h5⟩)
        go_ret
        exact ⟨rfl, Or.inl ⟨HN.out, h5⟩⟩
      by_cases q3 : W2 = (⟨#[115, 116, 97, 114, 116, 115, 87, 105, 116, 104]⟩ : ByteArray)
      · have f0 := lit_no (l := [105, 110]) q0
        have f1 := lit_no (l := [109, 97, 116, 99, 104, 101, 115]) q1
        have f2 := lit_no (l := [99, 111, 110, 116, 97, 105, 110, 115]) q2
        have f3 := lit_yes (l := [115, 116, 97, 114, 116, 115, 87, 105, 116, 104]) q3
        have HN : Hid (isNeg W2 = true) := decide_eq_true (Or.inr (Or.inr (Or.inr (Or.inl q3))))
        have c5 := emit_LQ B { x with sb := P, sr := P, eb := m, er := m } w0 w4 L R b (n + 1) _ kOp hq4 (by omega) hm0 hms hs
        simp only [HW2.out] at c5
        have HF := Lib.hid c5
        clear q0 q1 q2 q3 c5 hq4 hk4
        go_wp2_with (go_at_call 34; refine HF.out.mono ?_; rintro e w5 ⟨rfl, h5⟩)
        go_ret
        exact ⟨rfl, Or.inl ⟨HN.out, h5⟩⟩
      by_cases q4 : W2 = (⟨#[101, 110, 100, 115, 87, 105, 116, 104]⟩ : ByteArray)
      · have f0 := lit_no (l := [105, 110]) q0
        have f1 := lit_no (l := [109, 97, 116, 99, 104, 101, 115]) q1
        have f2 := lit_no (l := [99, 111, 110, 116, 97, 105, 110, 115]) q2
        have f3 := lit_no (l := [115, 116, 97, 114, 116, 115, 87, 105, 116, 104]) q3
        have f4 := lit_yes (l := [101, 110, 100, 115, 87, 105, 116, 104]) q4
        have HN : Hid (isNeg W2 = true) := decide_eq_true (Or.inr (Or.inr (Or.inr (Or.inr (q4)))))
        have c5 := emit_LQ B { x with sb := P, sr := P, eb := m, er := m } w0 w4 L R b (n + 1) _ kOp hq4 (by omega) hm0 hms hs
        simp only [HW2.out] at c5
        have HF := Lib.hid c5
        clear q0 q1 q2 q3 q4 c5 hq4 hk4
        go_wp2_with (go_at_call 34; refine HF.out.mono ?_; rintro e w5 ⟨rfl, h5⟩)
        go_ret
        exact ⟨rfl, Or.inl ⟨HN.out, h5⟩⟩
      have f0 := lit_no (l := [105, 110]) q0
      have f1 := lit_no (l := [109, 97, 116, 99, 104, 101, 115]) q1
      have f2 := lit_no (l := [99, 111, 110, 116, 97, 105, 110, 115]) q2
      have f3 := lit_no (l := [115, 116, 97, 114, 116, 115, 87, 105, 116, 104]) q3
      have f4 := lit_no (l := [101, 110, 100, 115, 87, 105, 116, 104]) q4
      have HN : Hid (isNeg W2 = false) := decide_eq_false (by simp only [q0, q1, q2, q3, q4, or_self, not_false_eq_true])
      clear q0 q1 q2 q3 q4
      obtain ⟨T, hT⟩ := hk4
      have d0 := cell_of (i := 0) hT rfl
      have d1 := cell_of (i := 1) hT rfl
      have d6 := hq4.lx.c6
      have d7 := hq4.lx.c7
      simp only at d6 d7
      have f6 := hq4.lx.f 6
      have f7 := hq4.lx.f 7
      have H4 := Lib.hid hq4
      clear hT hq4
      go_wp2
      go_ret
      exact ⟨rfl, Or.inr ⟨HN.out, H4.out.step (((Ch.refl [L] w4).setCell (p := ⟨L, 6, none⟩) (Or.inl (by simp)) _).setCell (p := ⟨L, 7, none⟩) (Or.inl (by simp)) _) ((H4.out.lx.s6 P).s7 P) rfl⟩⟩

end Go.Proofs.YtdlkdojgbiahgaaGreatFmt.Lx
