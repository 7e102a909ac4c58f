/-
  The contracts of dot and number (where the numeral is accepted). Conditions: lexer, ring and slots lie in new blocks, the tables are laid, the text has at most 2^30 bytes.
-/
import Derived.Test.YtdlkdojgbiahgaaGreatFmtLxTok
import Derived.Test.YtdlkdojgbiahgaaGreatFmtLxScanW
namespace Go.Proofs.YtdlkdojgbiahgaaGreatFmt.Lx
open Go.RowKit Go.Lib

/-- The ten digits. -/
def DD : ByteArray := ⟨#[48, 49, 50, 51, 52, 53, 54, 55, 56, 57]⟩
theorem asc_DD : Asc DD := asc_of_B rfl
def kNum : ByteArray := ⟨#[78, 117, 109, 98, 101, 114]⟩

theorem acc_LQ (B : Nat) (x : LS) (w0 : Base) (w : World) (L R b n : Nat) (l : List Tk) (p : Nat) (v : ByteArray) (bo : Bool) (h : LQ B (x.at p p) w0 w L R b n l) (hs : x.s.size ≤ 1073741824) (hp : p ≤ x.s.size) (hv : Asc v) (hb : acc x.s v p = bo) :
    Calls Tryz.prog 31 #[.pointer (some ⟨L, 0, none⟩), .string v] w fun e w' => e = .returned (.bool bo) ∧ LQ B (x.at (cond bo (p + 1) p) (cond bo (p + 1) p)) w0 w' L R b n l := by
  refine (accS B L x v w w p ⟨Ch.refl _ _, h.anch, h.lx⟩ h.bL hs hp hv bo hb).mono ?_
  rintro e w' ⟨rfl, hsc, hc⟩
  exact ⟨rfl, h.step hc hsc.lx rfl⟩
theorem acc_low {s v : ByteArray} {p : Nat} (hv : Asc v) (h : acc s v p = true) : bt s p < 128 := by
  have hh := hv _ (acc_has h)
  rw [(dr_low s p hh).1]
  exact hh

theorem bt_asc {v : ByteArray} (h : ascB v = true) (p : Nat) : bt v p < 128 := by
  rcases Nat.lt_or_ge p v.size with k | k
  · rw [bt_get v p k]
    have := List.all_eq_true.1 h (v.data[p]'k) (Array.mem_toList_iff.2 (Array.getElem_mem k))
    exact of_decide_eq_true this
  · rw [bt_out v p k]; decide
theorem has_at {v : ByteArray} (hv : ascB v = true) {c i : Nat} (hi : i < v.size) (hc : bt v i = c) : ∀ d j, j + d = i → has v c j = true := by
  intro d
  induction d with
  | zero =>
    intro j hj
    have hji : j = i := by omega
    subst hji
    exact has_hit v c j hi (by rw [(dec_ascii v j (bt_asc hv j)).1, hc])
  | succ d ih =>
    intro j hj
    by_cases hd : dr v j = c
    · exact has_hit v c j (by omega) hd
    · rw [has_miss v c j (by omega) hd, (dec_ascii v j (bt_asc hv j)).2]
      exact ih (j + 1) (by omega)

set_option maxHeartbeats 2000000 in
/-- dot before a digit. -/
theorem dot_yes (B : Nat) (x : LS) (w0 : Base) (w : World) (L R b n : Nat) (l : List Tk) (p : Nat) (h : LQ B (x.at p p) w0 w L R b n l) (he : x.eof = false) (hp : p < x.s.size) (hs : x.s.size ≤ 1073741824) (h46 : bt x.s p = 46) (ha : acc x.s DD (p + 1) = true) :
    Calls Tryz.prog 23 #[.pointer (some ⟨L, 0, none⟩)] w fun e w' => e = .returned numberV ∧ LQ B (x.at (p + 1) (p + 1)) w0 w' L R b n l := by
  have hda := dec_ascii x.s p (by omega)
  have hd1 : dr (x.at p p).s (x.at p p).eb = bt x.s p := hda.1
  have hd2 : dw (x.at p p).s (x.at p p).eb = 1 := hda.2
  have cn := next_LQ B (x.at p p) w0 w L R b n l h hp hs (by show p ≤ _; omega)
  rw [hd1, hd2] at cn
  have h1 := acc_lt ha
  have HA := Lib.hid fun W (hq : LQ B (x.at (p + 1) (p + 1)) w0 W L R b n l) => acc_LQ B x w0 W L R b n l (p + 1) DD true hq hs (by omega) asc_DD ha
  have HB := Lib.hid fun W (hq : LQ B (x.at (p + 1 + 1) (p + 1 + 1)) w0 W L R b n l) => backup_ascii B x w0 W L R b n l (p + 1) (p + 1) hq he h1 hs (acc_low asc_DD ha) (Nat.le_refl _)
  clear h hda hd1 hd2 he hp hs h46 ha h1
  go_enter Tryz.func23, Tryz.ntmps23
  go_wp2_with (fail)
  refine cn.mono ?_
  rintro e w1 ⟨rfl, hq⟩
  have c1 := HA.out _ hq
  clear cn hq HA
  go_wp2_with (fail)
  refine c1.mono ?_
  rintro e w2 ⟨rfl, hq⟩
  have c2 := HB.out _ hq
  clear c1 hq HB
  go_wp2_with (fail)
  refine c2.mono ?_
  rintro e w3 ⟨rfl, hq⟩
  clear c2
  go_wp2
  go_ret
  exact ⟨rfl, hq⟩

/-- Where dot's operator ends. -/
def dE (s : ByteArray) (p : Nat) : Nat := cond (acc s dt (p + 1)) (p + 1 + 1) (p + 1)
theorem dE_le (s : ByteArray) (p : Nat) (hp : p < s.size) : p ≤ dE s p ∧ dE s p ≤ s.size := by
  unfold dE
  cases h : acc s dt (p + 1) with
  | true => have := acc_lt h; simp only [cond_true]; omega
  | false => simp only [cond_false]; omega

set_option maxHeartbeats 2000000 in
/-- dot where no digit follows. -/
theorem dot_no (B : Nat) (x : LS) (w0 : Base) (w : World) (L R b n : Nat) (l : List Tk) (p : Nat) (h : LQ B (x.at p p) w0 w L R b n l) (hr : b + n < 10) (hsb : x.sb ≤ p) (hp : p < x.s.size) (hs : x.s.size ≤ 1073741824) (h46 : bt x.s p = 46) (ha : acc x.s DD (p + 1) = false) :
    Calls Tryz.prog 23 #[.pointer (some ⟨L, 0, none⟩)] w fun e w' => e = .returned rootV ∧ LQ B { x with sb := dE x.s p, sr := dE x.s p, eb := dE x.s p, er := dE x.s p } w0 w' L R b (n + 1) (l.set (b + n) ⟨x.sr, dE x.s p, kOp, x.s.extract x.sb (dE x.s p)⟩) := by
  have hda := dec_ascii x.s p (by omega)
  have hd1 : dr (x.at p p).s (x.at p p).eb = bt x.s p := hda.1
  have hd2 : dw (x.at p p).s (x.at p p).eb = 1 := hda.2
  have cn := next_LQ B (x.at p p) w0 w L R b n l h hp hs (by show p ≤ _; omega)
  rw [hd1, hd2] at cn
  have hE := dE_le x.s p hp
  have HA := Lib.hid fun W (hq : LQ B (x.at (p + 1) (p + 1)) w0 W L R b n l) => acc_LQ B x w0 W L R b n l (p + 1) DD false hq hs (by omega) asc_DD ha
  have HD := Lib.hid fun W (hq : LQ B (x.at (p + 1) (p + 1)) w0 W L R b n l) => acc_LQ B x w0 W L R b n l (p + 1) dt (acc x.s dt (p + 1)) hq hs (by omega) asc_dt rfl
  have HM := Lib.hid fun W (hq : LQ B (x.at (dE x.s p) (dE x.s p)) w0 W L R b n l) => emit_LQ B (x.at (dE x.s p) (dE x.s p)) w0 W L R b n l kOp hq hr (by show x.sb ≤ dE x.s p; omega) hE.2 hs
  have HG := Lib.hid (show dE x.s p = cond (acc x.s dt (p + 1)) (p + 1 + 1) (p + 1) from rfl)
  generalize dE x.s p = E at *
  generalize acc x.s dt (p + 1) = bo at *
  clear h hda hd1 hd2 hp hs h46 ha hE hr hsb
  go_enter Tryz.func23, Tryz.ntmps23
  go_wp2_with (fail)
  refine cn.mono ?_
  rintro e w1 ⟨rfl, hq⟩
  have c1 := HA.out _ hq
  clear cn hq HA
  go_wp2_with (fail)
  refine c1.mono ?_
  rintro e w2 ⟨rfl, hq⟩
  have c2 := HD.out _ hq
  clear c1 hq HD
  go_wp2_with (fail)
  refine c2.mono ?_
  rintro e w3 ⟨rfl, hq⟩
  rw [← HG.out] at hq
  have c3 := HM.out _ hq
  clear c2 hq HM HG
  go_wp2_with (fail)
  refine c3.mono ?_
  rintro e w4 ⟨rfl, hq⟩
  clear c3
  go_wp2
  go_ret
  exact ⟨rfl, hq⟩

set_option maxHeartbeats 2000000 in
/-- number, where the numeral is accepted. -/
theorem number_ok (B : Nat) (x : LS) (w0 : Base) (w : World) (L R b n : Nat) (l : List Tk) (p : Nat) (h : LQ B (x.at p p) w0 w L R b n l) (hr : b + n < 10) (hsb : x.sb ≤ p) (hp : p ≤ x.s.size) (hs : x.s.size ≤ 1073741824) (hok : okN x.s p = true) :
    Calls Tryz.prog 33 #[.pointer (some ⟨L, 0, none⟩)] w fun e w' => e = .returned rootV ∧ LQ B { x with sb := eN x.s p, sr := eN x.s p, eb := eN x.s p, er := eN x.s p } w0 w' L R b (n + 1) (l.set (b + n) ⟨x.sr, eN x.s p, kNum, x.s.extract x.sb (eN x.s p)⟩) := by
  have cs := scan_any B L x w p ⟨Ch.refl _ _, h.anch, h.lx⟩ h.bL hs hp
  have HX := Lib.hid h
  have HM := Lib.hid fun W (hq : LQ B (x.at (eN x.s p) (eN x.s p)) w0 W L R b n l) h1 h2 => emit_LQ B (x.at (eN x.s p) (eN x.s p)) w0 W L R b n l kNum hq hr h1 h2 hs
  have HS := Lib.hid hsb
  clear h hs hr hsb
  go_enter Tryz.func33, Tryz.ntmps33
  go_wp2_with (fail)
  refine cs.mono ?_
  rintro e w1 ⟨eb, er, rfl, hc, ha, hx, hke, h1, h2, h3⟩
  obtain ⟨rfl, rfl⟩ := hke hok
  have hq : LQ B (x.at (eN x.s p) (eN x.s p)) w0 w1 L R b n l := HX.out.step hc hx rfl
  have c1 := HM.out _ hq (by have := HS.out; show x.sb ≤ eN x.s p; omega) (by show eN x.s p ≤ x.s.size; omega)
  rw [hok]
  clear cs hc ha hx hke h1 h2 h3 hq HM HS HX
  go_wp2_with (fail)
  refine c1.mono ?_
  rintro e w2 ⟨rfl, hq⟩
  clear c1
  go_wp2
  go_ret
  exact ⟨rfl, hq⟩

/-- The end of a numeral that opens with a digit. -/
theorem eN_digit {s : ByteArray} {p : Nat} (h : acc s DD p = true) : p + 1 ≤ eN s p := by
  have hlt := acc_lt h
  have h10 : acc s D10 p = true := by
    have hl := acc_low asc_DD h
    have hh := acc_has h
    unfold acc
    rw [decide_eq_true hlt, Bool.true_and]
    have hd := (dec_ascii s p hl).1
    rw [hd] at hh ⊢
    generalize bt s p = c at *
    have hc : 48 ≤ c ∧ c ≤ 57 := by
      rcases Nat.lt_or_ge c 48 with k | k
      · have := has_out (v := DD) (P := fun d => !(decide (48 ≤ d) && decide (d ≤ 57))) (by decide) (c := c) (by simp; omega)
        rw [this] at hh; cases hh
      · rcases Nat.lt_or_ge 57 c with k2 | k2
        · have := has_out (v := DD) (P := fun d => !(decide (48 ≤ d) && decide (d ≤ 57))) (by decide) (c := c) (by simp; omega)
          rw [this] at hh; cases hh
        · exact ⟨k, k2⟩
    have hb : bt D10 (c - 48) = c := by
      have tab : ((List.range 10).all fun i => bt D10 i == i + 48) = true := by decide
      have := List.all_eq_true.1 tab (c - 48) (List.mem_range.2 (by omega))
      have := eq_of_beq this
      omega
    exact has_at (v := D10) rfl (by show c - 48 < 11; omega) hb (c - 48) 0 (by omega)
  have hiP : p + 1 ≤ iP s p := by
    unfold iP pD pP
    cases h0 : acc s z0 p with
    | true =>
      have hge : p + 1 ≤ bP p true (acc s xX (p + 1)) (acc s oO (p + 1)) (acc s bB (p + 1)) := by
        unfold bP
        cases acc s xX (p + 1) <;> cases acc s oO (p + 1) <;> cases acc s bB (p + 1) <;> simp
      have hle := pP_le s p (by omega)
      unfold pP at hle
      rw [h0] at hle
      have := (run_le' s (bD true (acc s xX (p + 1)) (acc s oO (p + 1)) (acc s bB (p + 1))) _ hle.2).1
      omega
    | false =>
      have e1 : bD false (acc s xX (p + 1)) (acc s oO (p + 1)) (acc s bB (p + 1)) = D10 := rfl
      have e2 : bP p false (acc s xX (p + 1)) (acc s oO (p + 1)) (acc s bB (p + 1)) = p := rfl
      rw [e1, e2, run_yes h10, acc_w asc_D10 h10]
      exact (run_le' s D10 (p + 1) hlt).1
  have hf := fP_le s p (by omega)
  have hx := xP_le s (pD s p) (fP s p) hf.2
  unfold eN
  cases dT s p with
  | true => exact hiP
  | false => simp only [cond_false]; unfold nP; omega

end Go.Proofs.YtdlkdojgbiahgaaGreatFmt.Lx
