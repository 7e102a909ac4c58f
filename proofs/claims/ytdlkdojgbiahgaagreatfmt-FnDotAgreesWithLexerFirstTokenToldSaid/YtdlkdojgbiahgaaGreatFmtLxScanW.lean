/-
  The contract of scanNumber, at a lexer that counts as many runes as bytes. Conditions: the tables are laid, the text has at most 2^30 bytes.
-/
import Derived.Test.YtdlkdojgbiahgaaGreatFmtLxNum
import Derived.Deep.DeepCutAuto
import Derived.Lib.Hide
namespace Go.Proofs.YtdlkdojgbiahgaaGreatFmt.Lx
open Go.RowKit Go.Lib

def bD (b0 b1 b2 b3 : Bool) : ByteArray := cond b0 (cond b1 D16 (cond b2 D8 (cond b3 D2 D10))) D10
def bP (p : Nat) (b0 b1 b2 b3 : Bool) : Nat := cond b0 (cond b1 (p + 1 + 1) (cond b2 (p + 1 + 1) (cond b3 (p + 1 + 1) (p + 1)))) p
theorem asc_bD (b0 b1 b2 b3 : Bool) : Asc (bD b0 b1 b2 b3) := by
  cases b0 <;> cases b1 <;> cases b2 <;> cases b3 <;> first | exact asc_D10 | exact asc_D16 | exact asc_D8 | exact asc_D2
/-- The digits of the numeral at p. -/
def pD (s : ByteArray) (p : Nat) : ByteArray := bD (acc s z0 p) (acc s xX (p + 1)) (acc s oO (p + 1)) (acc s bB (p + 1))
/-- The place behind its opening. -/
def pP (s : ByteArray) (p : Nat) : Nat := bP p (acc s z0 p) (acc s xX (p + 1)) (acc s oO (p + 1)) (acc s bB (p + 1))
def iP (s : ByteArray) (p : Nat) : Nat := run s (pD s p) (pP s p)
def fP (s : ByteArray) (p : Nat) : Nat := cond (acc s dt (iP s p)) (run s (pD s p) (iP s p + 1)) (iP s p)
def xP (s D : ByteArray) (p : Nat) : Nat := cond (acc s eE p) (run s D (cond (acc s pm (p + 1)) (p + 1 + 1) (p + 1))) p
def nP (s : ByteArray) (p : Nat) : Nat := xP s (pD s p) (fP s p)
def dT (s : ByteArray) (p : Nat) : Bool := acc s dt (iP s p) && (pk s (iP s p + 1) == 46)
def okN (s : ByteArray) (p : Nat) : Bool := dT s p || !anU (pk s (nP s p))
def eN (s : ByteArray) (p : Nat) : Nat := cond (dT s p) (iP s p) (nP s p)

theorem pP_le (s : ByteArray) (p : Nat) (h : p ≤ s.size) : p ≤ pP s p ∧ pP s p ≤ s.size := by
  unfold pP bP
  cases h0 : acc s z0 p with
  | false => simp only [cond_false]; omega
  | true =>
    have l0 := acc_lt h0
    simp only [cond_true]
    cases h1 : acc s xX (p + 1) with
    | true => have := acc_lt h1; simp only [cond_true]; omega
    | false =>
      simp only [cond_false]
      cases h2 : acc s oO (p + 1) with
      | true => have := acc_lt h2; simp only [cond_true]; omega
      | false =>
        simp only [cond_false]
        cases h3 : acc s bB (p + 1) with
        | true => have := acc_lt h3; simp only [cond_true]; omega
        | false => simp only [cond_false]; omega
theorem iP_le (s : ByteArray) (p : Nat) (h : p ≤ s.size) : p ≤ iP s p ∧ iP s p ≤ s.size := by
  have h1 := pP_le s p h
  have h2 := run_le' s (pD s p) (pP s p) h1.2
  unfold iP
  omega
theorem fP_le (s : ByteArray) (p : Nat) (h : p ≤ s.size) : iP s p ≤ fP s p ∧ fP s p ≤ s.size := by
  have h1 := iP_le s p h
  unfold fP
  cases h0 : acc s dt (iP s p) with
  | false => simp only [cond_false]; omega
  | true =>
    have l0 := acc_lt h0
    have h2 := run_le' s (pD s p) (iP s p + 1) l0
    simp only [cond_true]; omega
theorem xP_le (s D : ByteArray) (p : Nat) (h : p ≤ s.size) : p ≤ xP s D p ∧ xP s D p ≤ s.size := by
  unfold xP
  cases h0 : acc s eE p with
  | false => simp only [cond_false]; omega
  | true =>
    have l0 := acc_lt h0
    simp only [cond_true]
    cases h1 : acc s pm (p + 1) with
    | false =>
      have h2 := run_le' s D (p + 1) l0
      simp only [cond_false]; omega
    | true =>
      have l1 := acc_lt h1
      have h2 := run_le' s D (p + 1 + 1) l1
      simp only [cond_true]; omega
theorem nP_le (s : ByteArray) (p : Nat) (h : p ≤ s.size) : iP s p ≤ nP s p ∧ nP s p ≤ s.size := by
  have h1 := fP_le s p h
  have h2 := xP_le s (pD s p) (fP s p) h1.2
  unfold nP
  omega

theorem peekS (B L : Nat) (x : LS) (w0 w : World) (p : Nat) (h : Sc B L x w0 w p) :
    Calls Tryz.prog 50 #[.pointer (some ⟨L, 0, none⟩)] w fun e w' => e = .returned (.int .i32 (pk x.s p)) ∧ Sc B L x w0 w' p ∧ Below w.heap.size w w' := by
  refine (peek_any B L (x.at p p) w h.lx h.anch).mono ?_
  rintro e w' ⟨rfl, hb⟩
  exact ⟨rfl, h.below hb, hb⟩
theorem pk_bounds (s : ByteArray) (p : Nat) : -2147483648 ≤ pk s p ∧ pk s p ≤ 2147483647 := by
  unfold pk
  have := dr_le s p
  split <;> omega

theorem Sc.alloc {B L : Nat} {x : LS} {w0 w : World} {p : Nat} (h : Sc B L x w0 w p) (o : Obj) : Sc B L x w0 (w.alloc o) p :=
  h.below ((Below.refl _ _).alloc (Nat.le_refl _) o)

/-- What scanNumber leaves. -/
def ScanPost (B L : Nat) (x : LS) (p : Nat) (w : World) (e : Ending) (w' : World) : Prop :=
  ∃ q r, e = .returned (.bool (okN x.s p)) ∧ Ch [L] w w' ∧ Anch B w' ∧ LX 60 w' L (x.at q r) ∧ (okN x.s p = true → q = eN x.s p ∧ r = eN x.s p) ∧ p ≤ q ∧ q ≤ x.s.size ∧ r ≤ q

set_option maxHeartbeats 8000000 in
theorem scan_any (B L : Nat) (x : LS) (w : World) (p : Nat) (h : Sc B L x w w p) (hB : B ≤ L) (hs : x.s.size ≤ 1073741824) (hp : p ≤ x.s.size) :
    Calls Tryz.prog 52 #[.pointer (some ⟨L, 0, none⟩)] w (ScanPost B L x p w) := by
  have l1 := pP_le x.s p hp
  obtain ⟨b0, e0⟩ : ∃ b, acc x.s z0 p = b := ⟨_, rfl⟩
  obtain ⟨b1, e1⟩ : ∃ b, acc x.s xX (p + 1) = b := ⟨_, rfl⟩
  obtain ⟨b2, e2⟩ : ∃ b, acc x.s oO (p + 1) = b := ⟨_, rfl⟩
  obtain ⟨b3, e3⟩ : ∃ b, acc x.s bB (p + 1) = b := ⟨_, rfl⟩
  have E1 : Hid (acc x.s xX (p + 1) = b1) := e1
  have E2 : Hid (acc x.s oO (p + 1) = b2) := e2
  have E3 : Hid (acc x.s bB (p + 1) = b3) := e3
  have ED : Hid (pD x.s p = bD b0 b1 b2 b3) := by show _ = _; unfold pD; rw [e0, e1, e2, e3]
  have EP : Hid (pP x.s p = bP p b0 b1 b2 b3) := by show _ = _; unfold pP; rw [e0, e1, e2, e3]
  have c0 := accS B L x z0 w w p h hB hs hp asc_z0 b0 e0
  clear e1 e2 e3
  go_enter Tryz.func52, Tryz.ntmps52
  go_upto_if 6 with (go_at_call 31; refine c0.mono ?_; rintro e w1 ⟨rfl, g1, _⟩)
  go_cut [3] (fun s3 wx => s3 = .string (bD b0 b1 b2 b3) ∧ Sc B L x w wx (bP p b0 b1 b2 b3))
  case first =>
    clear ED EP c0 h
    cases b0 with
    | false =>
      go_wp2_with (fail)
      go_meet
      exact ⟨rfl, g1⟩
    | true =>
      have lt0 := acc_lt e0
      clear e0
      replace g1 : Sc B L x w w1 (p + 1) := g1
      go_wp2_with (fail)
      refine (accS B L x xX _ _ _ g1 hB hs lt0 asc_xX b1 E1.out).mono ?_
      rintro e w2 ⟨rfl, g2, _⟩
      clear g1
      cases b1 with
      | true =>
        go_wp2_with (fail)
        go_meet
        exact ⟨rfl, g2⟩
      | false =>
        replace g2 : Sc B L x w w2 (p + 1) := g2
        go_wp2_with (fail)
        refine (accS B L x oO _ _ _ g2 hB hs lt0 asc_oO b2 E2.out).mono ?_
        rintro e w3 ⟨rfl, g3, _⟩
        clear g2
        cases b2 with
        | true =>
          go_wp2_with (fail)
          go_meet
          exact ⟨rfl, g3⟩
        | false =>
          replace g3 : Sc B L x w w3 (p + 1) := g3
          go_wp2_with (fail)
          refine (accS B L x bB _ _ _ g3 hB hs lt0 asc_bB b3 E3.out).mono ?_
          rintro e w4 ⟨rfl, g4, _⟩
          clear g3
          cases b3 with
          | true =>
            go_wp2_with (fail)
            go_meet
            exact ⟨rfl, g4⟩
          | false =>
            go_wp2_with (fail)
            go_meet
            exact ⟨rfl, g4⟩
  case rest =>
    obtain ⟨rfl, g⟩ := hcut
    clear g1 c0 h e0 E1 E2 E3
    have aD : Hid (Asc (bD b0 b1 b2 b3)) := asc_bD b0 b1 b2 b3
    rw [← EP.out] at g
    clear EP
    obtain ⟨I, hI⟩ : ∃ I, iP x.s p = I := ⟨_, rfl⟩
    have EI : Hid (run x.s (bD b0 b1 b2 b3) (pP x.s p) = I) := by show _ = _; rw [← ED.out]; exact hI
    have HI : Hid (iP x.s p = I) := hI
    have l2 := iP_le x.s p hp
    rw [hI] at l2
    clear hI
    generalize bD b0 b1 b2 b3 = D at *
    have cr := runS B L x D w _ _ g hB hs l1.2 aD.out
    rw [EI.out] at cr
    clear EI
    go_wp2_with (fail)
    refine cr.mono ?_
    rintro e w2 ⟨rfl, g2, _⟩
    clear cr g
    have d6 := g2.lx.c6
    have d7 := g2.lx.c7
    simp only [LS.at] at d6 d7
    obtain ⟨b5, e5⟩ : ∃ b, acc x.s dt I = b := ⟨_, rfl⟩
    obtain ⟨bd, ed⟩ : ∃ b, (pk x.s (I + 1) == 46) = b := ⟨_, rfl⟩
    have HT : Hid (dT x.s p = (b5 && bd)) := by
      show _ = _
      unfold dT
      rw [HI.out, e5, ed]
    have HF : Hid (fP x.s p = cond b5 (run x.s D (I + 1)) I) := by
      show _ = _
      unfold fP
      rw [HI.out, ED.out, e5]
    have E5 : Hid (acc x.s dt I = b5) := e5
    have E6 : Hid ((pk x.s (I + 1) == 46) = bd) := ed
    clear e5 ed
    have q1 : L < w2.heap.size := g2.lx.lt
    have mk : ∀ W, Sc B L x w W I → Calls Tryz.prog 31 #[.pointer (some ⟨L, 0, none⟩), .string dt] W fun e w' => e = .returned (.bool b5) ∧ Sc B L x w w' (cond b5 (I + 1) I) ∧ Ch [L] W w' := fun W hW => accS B L x dt w W I hW hB hs l2.2 asc_dt b5 E5.out
    have HM := Lib.hid mk
    clear mk
    go_upto_if 21 with (go_at_call 31; refine (HM.out _ (g2.alloc _)).mono ?_; rintro e w3 ⟨rfl, g3, hc3⟩)
    have hblk := hc3.keep (alloc_new w2 _) (by simp; omega)
    clear hc3 d6 d7 g2 HM
    go_cut [] (fun wx => Sc B L x w wx (cond b5 (run x.s D (I + 1)) I) ∧ Hid ((b5 && bd) = false))
    case first =>
      cases b5 with
      | false =>
        go_wp2_with (fail)
        go_meet
        exact ⟨g3, rfl⟩
      | true =>
        have lt5 := acc_lt E5.out
        replace g3 : Sc B L x w w3 (I + 1) := g3
        have pb := pk_bounds x.s (I + 1)
        have cp := peekS B L x w w3 (I + 1) g3
        generalize pk x.s (I + 1) = R at *
        have e6 := E6.out
        clear g3
        cases bd with
        | true =>
          go_wp2_with (fail)
          refine cp.mono ?_
          rintro e w4 ⟨rfl, g4, hb4⟩
          have hb2 := (hb4.block _ (block_lt hblk)).trans hblk
          have d0 := cell_of (i := 0) hb2 rfl
          have d1 := cell_of (i := 1) hb2 rfl
          have d6 := g4.lx.c6
          have d7 := g4.lx.c7
          simp only [LS.at] at d6 d7
          have f6 := g4.lx.f 6
          have f7 := g4.lx.f 7
          clear cp hblk hb2 hb4
          have fin : ScanPost B L x p w (.returned (.bool true)) ((w4.setCell ⟨L, 6, none⟩ (.int .i64 (I : Int))).setCell ⟨L, 7, none⟩ (.int .i64 (I : Int))) := by
            have hk : okN x.s p = true := by unfold okN; rw [HT.out]; rfl
            have hq : eN x.s p = I := by unfold eN; rw [HT.out, HI.out]; rfl
            refine ⟨I, I, by rw [hk], (g4.ch.setCell (p := ⟨L, 6, none⟩) (Or.inl (by simp)) _).setCell (p := ⟨L, 7, none⟩) (Or.inl (by simp)) _, g4.anch.ch1 (((Ch.refl [L] w4).setCell (p := ⟨L, 6, none⟩) (Or.inl (by simp)) _).setCell (p := ⟨L, 7, none⟩) (Or.inl (by simp)) _) hB, (g4.lx.s6 I).s7 I, fun _ => ⟨hq.symm, hq.symm⟩, by omega, l2.2, Nat.le_refl _⟩
          clear g4
          go_wp2
          go_ret
          exact fin
        | false =>
          have cr := fun W hW => runS B L x D w W _ hW hB hs lt5 aD.out
          have HC := Lib.hid cr
          clear cr
          go_wp2_with (first | (go_at_call 50; refine cp.mono ?_; rintro e w4 ⟨rfl, g4, hb4⟩) | (go_at_call 75; refine (HC.out _ g4).mono ?_; rintro e w5 ⟨rfl, g5, _⟩))
          go_meet
          exact ⟨g5, rfl⟩
    case rest =>
      have lf := fP_le x.s p hp
      rw [HI.out, HF.out] at lf
      have ln := nP_le x.s p hp
      rw [HI.out] at ln
      obtain ⟨hcut, HZ⟩ := hcut
      rw [HZ.out] at HT
      clear g3 hblk E5 E6 HI HZ
      obtain ⟨F, hF⟩ : ∃ F, cond b5 (run x.s D (I + 1)) I = F := ⟨_, rfl⟩
      have HN : Hid (nP x.s p = xP x.s D F) := by
        show _ = _
        unfold nP
        rw [HF.out, ED.out, hF]
      rw [HN.out] at ln
      rw [hF] at hcut lf
      clear hF HF ED
      obtain ⟨b6, e6⟩ : ∃ b, acc x.s eE F = b := ⟨_, rfl⟩
      have E6 : Hid (acc x.s eE F = b6) := e6
      clear e6
      have ca := accS B L x eE w _ _ hcut hB hs lf.2 asc_eE b6 E6.out
      go_upto_if 33 with (go_at_call 31; refine ca.mono ?_; rintro e w5 ⟨rfl, g5, _⟩)
      clear ca hcut
      go_cut [] (fun wx => Sc B L x w wx (xP x.s D F))
      case first =>
        cases b6 with
        | false =>
          have HX : Hid (xP x.s D F = F) := by show _ = _; unfold xP; rw [E6.out]; rfl
          go_wp2_with (fail)
          go_meet
          rw [HX.out]
          exact g5
        | true =>
          have lt6 := acc_lt E6.out
          replace g5 : Sc B L x w w5 (F + 1) := g5
          obtain ⟨b7, e7⟩ : ∃ b, acc x.s pm (F + 1) = b := ⟨_, rfl⟩
          have E7 : Hid (acc x.s pm (F + 1) = b7) := e7
          clear e7
          have HX : Hid (xP x.s D F = run x.s D (cond b7 (F + 1 + 1) (F + 1))) := by show _ = _; unfold xP; rw [E6.out, E7.out]; rfl
          have ca := accS B L x pm w _ _ g5 hB hs lt6 asc_pm b7 E7.out
          have lg : cond b7 (F + 1 + 1) (F + 1) ≤ x.s.size := by
            cases b7 with
            | false => exact lt6
            | true => exact acc_lt E7.out
          go_wp2_with (fail)
          refine ca.mono ?_
          rintro e w6 ⟨rfl, g6, _⟩
          clear ca g5
          have cr := runS B L x D w _ _ g6 hB hs lg aD.out
          go_wp2_with (fail)
          refine cr.mono ?_
          rintro e w7 ⟨rfl, g7, _⟩
          clear cr g6
          go_wp2_with (fail)
          go_meet
          rw [HX.out]
          exact g7
      case rest =>
        clear g5 E6 aD
        have g := hcut
        clear hcut
        generalize xP x.s D F = N at *
        have cp := peekS B L x w _ N g
        have pb := pk_bounds x.s N
        obtain ⟨bz, ez⟩ : ∃ b, anU (pk x.s N) = b := ⟨_, rfl⟩
        have EZ : Hid (okN x.s p = !bz) := by
          show _ = _
          unfold okN
          rw [HT.out, HN.out, ez]
          rfl
        have EN : Hid (eN x.s p = N) := by
          show _ = _
          unfold eN
          rw [HT.out, HN.out]
          rfl
        have hz : bz = true → N < x.s.size := by
          intro h1
          subst h1
          by_cases h2 : N < x.s.size
          · exact h2
          · unfold pk at ez
            rw [if_neg h2, anU_eof] at ez
            cases ez
        have ca := fun W (hW : Tabs W) => alnum_any (pk x.s N) W hW pb.1 pb.2
        rw [ez] at ca
        have HC := Lib.hid ca
        have HZ := Lib.hid hz
        clear ca ez pb hz
        generalize pk x.s N = R at *
        clear HT HN
        cases bz with
        | false =>
          go_wp2_with (first | (go_at_call 50; refine cp.mono ?_; rintro e w8 ⟨rfl, g8, hb8⟩) | (go_at_call 36; refine (HC.out _ g8.anch.tabs).mono ?_; rintro e w9 ⟨rfl, hb9⟩))
          go_ret
          have g9 := g8.below hb9
          exact ⟨N, N, by rw [EZ.out]; rfl, g9.ch, g9.anch, g9.lx, fun _ => ⟨EN.out.symm, EN.out.symm⟩, by omega, ln.2, Nat.le_refl _⟩
        | true =>
          have lz := HZ.out rfl
          have cn := fun W (hW : Sc B L x w W N) => next_yes B L (x.at N N) W hW.lx hW.anch lz hs (by show N ≤ _; omega)
          have HN := Lib.hid cn
          have dwb := dw_bounds x.s N lz
          clear cn HZ
          go_wp2_with (first | (go_at_call 50; refine cp.mono ?_; rintro e w8 ⟨rfl, g8, hb8⟩) | (go_at_call 36; refine (HC.out _ g8.anch.tabs).mono ?_; rintro e w9 ⟨rfl, hb9⟩) | (go_at_call 30; refine (HN.out _ (g8.below hb9)).mono ?_; rintro e w10 ⟨rfl, hc10, hx10⟩))
          go_ret
          have g9 := g8.below hb9
          have hok : okN x.s p = false := EZ.out
          have hx : LX 60 w10 L (x.at (N + dw x.s N) (N + 1)) := hx10
          refine ⟨N + dw x.s N, N + 1, by rw [hok]; rfl, g9.ch.trans hc10, g9.anch.ch1 hc10 hB, hx, fun h => ?_, by omega, dwb.2.1, by omega⟩
          rw [hok] at h
          cases h

end Go.Proofs.YtdlkdojgbiahgaaGreatFmt.Lx
