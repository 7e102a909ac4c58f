/-
  The walk of FnScanNumberRescanOfLexemeIsWhole: it returns true for every input. Condition: the tables are laid.
-/
import Derived.Test.YtdlkdojgbiahgaaFmtLxScanW
namespace Go.Proofs.YtdlkdojgbiahgaaFmt.Lx
open Go.RowKit Go.Lib

theorem pD_zero (s : ByteArray) : pD s 0 = preD s := by
  unfold pD bD preD
  rw [Nat.zero_add]
  cases acc s z0 0 <;> cases acc s xX 1 <;> cases acc s oO 1 <;> cases acc s bB 1 <;> rfl
theorem pP_zero (s : ByteArray) : pP s 0 = preP s := by
  unfold pP bP preP
  rw [Nat.zero_add]
  cases acc s z0 0 <;> cases acc s xX 1 <;> cases acc s oO 1 <;> cases acc s bB 1 <;> rfl
theorem iP_zero (s : ByteArray) : iP s 0 = intP s := by
  unfold iP intP
  rw [pD_zero, pP_zero]
theorem xP_eq (s D : ByteArray) (p : Nat) : xP s D p = expP s D p := by
  unfold xP expP sgnP
  cases acc s eE p with
  | false => rfl
  | true => cases acc s pm (p + 1) <;> rfl
theorem nP_zero (s : ByteArray) : nP s 0 = numP s := by
  unfold nP fP numP
  rw [pD_zero, iP_zero, xP_eq]
  cases acc s dt (intP s) <;> rfl
theorem dT_zero (s : ByteArray) : dT s 0 = dots s := by
  unfold dT dots
  rw [iP_zero]
  congr 1
/-- An accepted numeral, scanned on its own, is accepted whole. -/
theorem okN_again (s : ByteArray) : okN (s.extract 0 (eN s 0)) 0 = true ∧ eN (s.extract 0 (eN s 0)) 0 = eN s 0 := by
  have fin : ∀ e, e ≤ s.size → dots (s.extract 0 e) = false → numP (s.extract 0 e) = e → okN (s.extract 0 e) 0 = true ∧ eN (s.extract 0 e) 0 = e := by
    intro e he h1 h2
    have hz := size_take s e he
    constructor
    · unfold okN
      rw [dT_zero, h1, nP_zero, h2]
      have : pk (s.extract 0 e) e = -1 := by unfold pk; rw [if_neg (by omega)]
      rw [this, anU_eof]
      rfl
    · unfold eN
      rw [dT_zero, h1, nP_zero, h2]
      rfl
  cases hd : dots s with
  | true =>
    have e1 : eN s 0 = intP s := by unfold eN; rw [dT_zero, hd, iP_zero]; rfl
    have := int_again s
    rw [e1]
    exact fin _ (intP_le s).2 this.2.2 this.2.1
  | false =>
    have e1 : eN s 0 = numP s := by unfold eN; rw [dT_zero, hd, nP_zero]; rfl
    rw [e1]
    rcases num_take s with k | k
    · exact fin _ (numP_le s).2 k.2 k.1
    · rw [hd] at k; cases k
theorem eN_le (s : ByteArray) (p : Nat) (h : p ≤ s.size) : p ≤ eN s p ∧ eN s p ≤ s.size := by
  have h1 := iP_le s p h
  have h2 := nP_le s p h
  unfold eN
  cases dT s p with
  | true => simp only [cond_true]; omega
  | false => simp only [cond_false]; omega

/-- ZZScanNumber: the end is where the numeral ends, where it is accepted. -/
def ScanOut (s : ByteArray) (w : World) (e : Ending) (w' : World) : Prop :=
  ∃ q r : Nat, e = .returned (.tuple #[.bool (okN s 0), .int .i64 (q : Int), .int .i64 (r : Int)]) ∧ Below w.heap.size w w' ∧ (okN s 0 = true → q = eN s 0 ∧ r = eN s 0)

set_option maxHeartbeats 1000000 in
theorem zzScan_any (s : ByteArray) (w : World) (hT : Tabs w) (hs : s.size ≤ 1073741824) :
    Calls Tryf.prog 10 #[.string s] w (ScanOut s w) := by
  have cF := fresh88 s w
  have HA : Hid (Anch w.heap.size w) := Anch.start hT
  clear hT
  obtain ⟨b, hb⟩ : ∃ b, okN s 0 = b := ⟨_, rfl⟩
  have HB : Hid (okN s 0 = b) := hb
  clear hb
  go_enter Tryf.func10, Tryf.ntmps10
  go_wp2_with (go_at_call 35; refine cF.mono ?_; rintro e w1 ⟨L, R, rfl, hb, hL, hR, hne, hx, hr⟩)
  clear cF hr hne hR
  have hsc : Sc w.heap.size L ⟨rootV, s, .pointer (some ⟨R, 0, none⟩), .pointer none, 0, 0, 0, 0, false, false⟩ w1 w1 0 := ⟨Ch.refl _ _, HA.out.below hb, hx⟩
  have cs := scan_any w.heap.size L _ w1 0 hsc hL hs (Nat.zero_le _)
  clear hx hsc
  refine cs.mono ?_
  rintro e w2 ⟨q, r, he, hc, _, hx2, hq, _⟩
  have he2 : e = .returned (.bool (okN s 0)) := he
  rw [HB.out] at he2
  subst he2
  have hbel : Below w.heap.size w w2 := hb.trans (hc.below (fun k hk => by simp at hk; omega) hb.size)
  have hq2 : okN s 0 = true → q = eN s 0 ∧ r = eN s 0 := hq
  have d6 := hx2.c6
  have d7 := hx2.c7
  simp only [LS.at] at d6 d7
  have HQ := Lib.hid hq2
  clear cs hc hx2 hq hq2 hb he
  go_wp2_with (fail)
  go_quiet (fail)
  go_wp2
  go_ret3
  exact ⟨q, r, by rw [HB.out]; rfl, ⟨hbel.os, hbel.tape, hbel.output, hbel.size, hbel.block⟩, HQ.out⟩

theorem rbytes_ok (s : ByteArray) (w : World) (h : s.size ≤ 1048576) : Calls Tryf.prog 9 #[.string s] w fun e w' => e = .returned (.bool true) ∧ w = w' := by
  have h1 : ¬ (1048576 < (s.size : Int)) := by omega
  go_enter Tryf.func9, Tryf.ntmps9
  go_wp2
  go_ret
  exact ⟨rfl, rfl⟩
theorem rbytes_no (s : ByteArray) (w : World) (h : ¬ s.size ≤ 1048576) : Calls Tryf.prog 9 #[.string s] w fun e w' => e = .returned (.bool false) ∧ w = w' := by
  have h1 : 1048576 < (s.size : Int) := by omega
  go_enter Tryf.func9, Tryf.ntmps9
  go_wp2
  go_ret
  exact ⟨rfl, rfl⟩

set_option maxHeartbeats 2000000 in
theorem rescan_in (s : ByteArray) (w : World) (hT : Tabs w) (hs : s.size ≤ 65536) :
    Calls Tryf.prog 3 #[.string s] w fun e w' => e = .returned (.bool true) ∧ Below w.heap.size w w' := by
  have cb := fun W => rbytes_ok s W (by omega)
  have h1 : ¬ (65536 < (s.size : Int)) := by omega
  have c1 := zzScan_any s w hT (by omega)
  have HT : Hid (Tabs w) := hT
  clear hT
  go_enter Tryf.func3, Tryf.ntmps3
  go_wp2_with (go_at_call 9; refine (cb _).mono ?_; rintro e w1 ⟨rfl, rfl⟩)
  refine c1.mono ?_
  rintro e w1 ⟨q, r, he, hb1, hq⟩
  clear c1 cb
  obtain ⟨b, hb⟩ : ∃ b, okN s 0 = b := ⟨_, rfl⟩
  rw [hb] at he
  subst he
  cases b with
  | false =>
    clear hb hq HT
    go_wp2
    go_ret
    exact ⟨rfl, hb1⟩
  | true =>
    obtain ⟨rfl, rfl⟩ := hq hb
    have hag := okN_again s
    have hle := (eN_le s 0 (Nat.zero_le _)).2
    have hz := size_take s _ hle
    obtain ⟨n, hn⟩ : ∃ n, eN s 0 = n := ⟨_, rfl⟩
    rw [hn] at hag hle hz ⊢
    have c2 := zzScan_any (s.extract 0 n) w1 (HT.out.below hb1) (by omega)
    have HG := Lib.hid hag
    clear hb hn hag hz
    go_wp2_with (fail)
    refine c2.mono ?_
    rintro e w2 ⟨q, r, he, hb2, hq⟩
    obtain ⟨hk, he2⟩ := HG.out
    obtain ⟨rfl, rfl⟩ := hq hk
    rw [hk, he2] at he
    subst he
    have hfin := hb1.trans (hb2.mono hb1.size)
    clear c2 hk he2 HG hq
    go_wp2
    go_ret
    exact ⟨rfl, hfin⟩

/-- FnScanNumberRescanOfLexemeIsWhole: true, whatever the input. -/
theorem rescan_walk (s : ByteArray) (w : World) (hT : Tabs w) :
    Calls Tryf.prog 3 #[.string s] w fun e w' => e = .returned (.bool true) ∧ Below w.heap.size w w' := by
  by_cases hs : s.size ≤ 65536
  · exact rescan_in s w hT hs
  have h2 : 65536 < (s.size : Int) := by omega
  by_cases hb : s.size ≤ 1048576
  · have cb := fun W => rbytes_ok s W hb
    clear hT hb
    go_enter Tryf.func3, Tryf.ntmps3
    go_wp2_with (go_at_call 9; refine (cb _).mono ?_; rintro e w1 ⟨rfl, rfl⟩)
    go_ret
    exact ⟨rfl, Below.refl _ _⟩
  · have cb := fun W => rbytes_no s W hb
    clear hT hb
    go_enter Tryf.func3, Tryf.ntmps3
    go_wp2_with (go_at_call 9; refine (cb _).mono ?_; rintro e w1 ⟨rfl, rfl⟩)
    go_ret
    exact ⟨rfl, Below.refl _ _⟩

end Go.Proofs.YtdlkdojgbiahgaaFmt.Lx
