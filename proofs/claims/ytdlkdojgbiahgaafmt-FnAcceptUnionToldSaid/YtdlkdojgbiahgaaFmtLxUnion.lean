/-
  The walk of FnAcceptUnion: it returns true for every input. Condition: the tables are laid.
-/
import Derived.Test.YtdlkdojgbiahgaaFmtLxIn
namespace Go.Proofs.YtdlkdojgbiahgaaFmt.Lx
open Go.RowKit Go.Lib

theorem St.lt {B L : Nat} {s : ByteArray} {tok : Value} {sb sr k : Nat} {w0 w : World} (h : St B L s tok sb sr k w0 w) : L < w.heap.size := by
  obtain ⟨eof, h1, h2, h3, h4⟩ := h
  exact h4.lt
/-- Another lexer moves. -/
theorem St.frame {B L K : Nat} {s : ByteArray} {tok : Value} {sb sr k : Nat} {w0 w w' : World} (h : St B K s tok sb sr k w0 w) (hc : Ch [L] w w') (hL : B ≤ L) (hne : K ≠ L) : St B K s tok sb sr k w0 w' := by
  obtain ⟨eof, h1, h2, h3, h4⟩ := h
  exact ⟨eof, h1.trans (hc.below (fun k hk => by simp at hk; omega) h2.le), h2.ch1 hc hL, h3, h4.ch hc (by simpa using hne)⟩

/-- accept, whether it accepts or not. -/
theorem zzacc_any (B L : Nat) (s v : ByteArray) (tok : Value) (sb sr k : Nat) (w0 w : World) (h : St B L s tok sb sr k w0 w) (hs : s.size ≤ 1073741824) (b : Bool) (hy : acc s v (pos s k).1 = b) :
    Calls Tryf.prog 29 #[.pointer (some ⟨L, 0, none⟩), .string v] w fun e w' => e = .returned (.bool b) ∧ St B L s tok sb sr (cond b (k + 1) k) w0 w' ∧ Ch [L] w w' ∧ B ≤ L := by
  cases b with
  | false =>
    refine (zzaccept_no B L s v tok sb sr k w0 w h hy).mono ?_
    rintro e w' ⟨rfl, hb⟩
    exact ⟨rfl, h.keep hb, Ch.of_below hb, h.choose_spec.2.2.1⟩
  | true =>
    obtain ⟨eof, hb, ha, hL, hx⟩ := h
    have hp := pos_le s k
    have c := accept_yes B L _ v w hx ha hs (by simp only; omega) hy
    have hst := pos_step s k (acc_lt hy)
    have fin : ∀ w', Ch [L] w w' → LX 64 w' L ⟨rootV, s, tok, .pointer none, sb, sr, (pos s k).1 + dw s (pos s k).1, (pos s k).2 + 1, eof, false⟩ → St B L s tok sb sr (cond true (k + 1) k) w0 w' := fun w' hc h1 =>
      ⟨eof, hb.trans (hc.below (fun k hk => by simp at hk; omega) ha.le), ha.ch1 hc hL, hL, by rw [show cond true (k + 1) k = k + 1 from rfl, hst]; exact h1⟩
    clear hst hy hx ha hb
    go_enter Tryf.func29, Tryf.ntmps29
    go_wp2_with (go_at_call 45; refine c.mono ?_; rintro e w1 ⟨rfl, hc, h1⟩)
    go_ret
    exact ⟨rfl, fin _ hc h1, hc, hL⟩

theorem acc_empty (s v : ByteArray) (p : Nat) (h : v.size = 0) : acc s v p = false := by
  unfold acc
  rw [has_end v _ 0 (by omega), Bool.and_false]
theorem acc_out (s v : ByteArray) (p : Nat) (h : ¬ p < s.size) : acc s v p = false := by
  unfold acc
  rw [decide_eq_false h, Bool.false_and]
theorem acc_join (s v1 v2 : ByteArray) (p : Nat) (h : p < s.size) : acc s (v1 ++ nul ++ v2) p = (acc s v1 p || acc s v2 p || bt s p == 0) := by
  have e : (dr s p == 0) = (bt s p == 0) := by
    rw [Bool.eq_iff_iff]
    simp only [beq_iff_eq]
    constructor
    · intro k; have := (dr_low s p (by omega)).1; omega
    · intro k; have := (dec_ascii s p (by omega)).1; omega
  unfold acc
  rw [decide_eq_true h, Bool.true_and, Bool.true_and, Bool.true_and, has_join, e]

theorem ubytes_ok (s v1 v2 : ByteArray) (k : Int) (w : World) (h : s.size + v1.size + v2.size ≤ 1048576) : Calls Tryf.prog 34 #[.string s, .int .i64 k, .string v1, .string v2] w fun e w' => e = .returned (.bool true) ∧ w = w' := by
  have h1 : ¬ (1048576 < (s.size : Int)) := by omega
  have h2 : ¬ (1048576 < (v1.size : Int)) := by omega
  have h3 : ¬ (1048576 < (v2.size : Int)) := by omega
  have h4 : ¬ (1048576 < (s.size : Int) + (v1.size : Int)) := by omega
  have h5 : ¬ (1048576 < (s.size : Int) + (v1.size : Int) + (v2.size : Int)) := by omega
  go_enter Tryf.func34, Tryf.ntmps34
  go_wp2
  go_ret
  exact ⟨rfl, rfl⟩
theorem ubytes_no (s v1 v2 : ByteArray) (k : Int) (w : World) (h : ¬ s.size + v1.size + v2.size ≤ 1048576) : Calls Tryf.prog 34 #[.string s, .int .i64 k, .string v1, .string v2] w fun e w' => e = .returned (.bool false) ∧ w = w' := by
  by_cases h1 : 1048576 < (s.size : Int)
  · clear h
    go_enter Tryf.func34, Tryf.ntmps34
    go_wp2
    go_ret
    exact ⟨rfl, rfl⟩
  by_cases h2 : 1048576 < (v1.size : Int)
  · clear h
    go_enter Tryf.func34, Tryf.ntmps34
    go_wp2
    go_ret
    exact ⟨rfl, rfl⟩
  by_cases h3 : 1048576 < (s.size : Int) + (v1.size : Int)
  · clear h
    go_enter Tryf.func34, Tryf.ntmps34
    go_wp2
    go_ret
    exact ⟨rfl, rfl⟩
  by_cases h4 : 1048576 < (v2.size : Int)
  · clear h
    go_enter Tryf.func34, Tryf.ntmps34
    go_wp2
    go_ret
    exact ⟨rfl, rfl⟩
  have h5 : 1048576 < (s.size : Int) + (v1.size : Int) + (v2.size : Int) := by omega
  clear h
  go_enter Tryf.func34, Tryf.ntmps34
  go_wp2
  go_ret
  exact ⟨rfl, rfl⟩

theorem union_big (s v1 v2 : ByteArray) (k : Int) (w : World) (hs : ¬ s.size + v1.size + v2.size ≤ 1048576) :
    Calls Tryf.prog 8 #[.string s, .int .i64 k, .string v1, .string v2] w fun e w' => e = .returned (.bool true) ∧ Below w.heap.size w w' := by
  have cb := fun W => ubytes_no s v1 v2 k W hs
  go_enter Tryf.func8, Tryf.ntmps8
  go_wp2_with (go_at_call 34; refine (cb _).mono ?_; rintro e w1 ⟨rfl, rfl⟩)
  go_ret
  exact ⟨rfl, Below.refl _ _⟩
theorem union_out (s v1 v2 : ByteArray) (k : Int) (w : World) (hs : s.size + v1.size + v2.size ≤ 1048576) (hk : ¬ (0 ≤ k ∧ k ≤ s.size + 1)) :
    Calls Tryf.prog 8 #[.string s, .int .i64 k, .string v1, .string v2] w fun e w' => e = .returned (.bool true) ∧ Below w.heap.size w w' := by
  have cb := fun W => ubytes_ok s v1 v2 k W hs
  have h1 : ¬ (1048576 < (s.size : Int) + (v1.size : Int) + (v2.size : Int)) := by omega
  by_cases h2 : k < 0
  · clear hk
    go_enter Tryf.func8, Tryf.ntmps8
    go_wp2_with (go_at_call 34; refine (cb _).mono ?_; rintro e w1 ⟨rfl, rfl⟩)
    go_ret
    exact ⟨rfl, Below.refl _ _⟩
  have h3 : (s.size : Int) + 1 < k := by omega
  clear hk
  go_enter Tryf.func8, Tryf.ntmps8
  go_wp2_with (go_at_call 34; refine (cb _).mono ?_; rintro e w1 ⟨rfl, rfl⟩)
  go_ret
  exact ⟨rfl, Below.refl _ _⟩

set_option maxHeartbeats 4000000 in
theorem union_end (s v1 v2 : ByteArray) (k : Nat) (w : World) (hT : Tabs w) (hs : s.size + v1.size + v2.size ≤ 1048576) (hk : (k : Int) ≤ (s.size : Int) + 1) (hlt : ¬ (pos s k).1 < s.size) :
    Calls Tryf.prog 8 #[.string s, .int .i64 (k : Int), .string v1, .string v2] w fun e w' => e = .returned (.bool true) ∧ Below w.heap.size w w' := by
  have cb := fun W => ubytes_ok s v1 v2 (k : Int) W hs
  have h1 : ¬ (1048576 < (s.size : Int) + (v1.size : Int) + (v2.size : Int)) := by omega
  have h2 : ¬ ((k : Int) < 0) := by omega
  have h3 : ¬ ((s.size : Int) + 1 < (k : Int)) := by omega
  have HA : Hid (Anch w.heap.size w) := Anch.start hT
  have cA : ∀ W, Anch w.heap.size W → Below w.heap.size w W → Calls Tryf.prog 18 #[.string s, .int .i64 (k : Int)] W (AtPost w.heap.size s k w W) := fun W p q => zzAt_any w.heap.size s k w W p q (by omega) (by omega)
  have cP := fun W => zzPos_any s k W (by omega) (by omega)
  have hpl := pos_le s k
  have hlz : ¬ ((pos s k).1 : Int) < (s.size : Int) := by omega
  have H1 : Hid (acc s v1 (pos s k).1 = false) := acc_out _ _ _ hlt
  have H2 : Hid (acc s v2 (pos s k).1 = false) := acc_out _ _ _ hlt
  have H4 : Hid (acc s (v1 ++ nul ++ v2) (pos s k).1 = false) := acc_out _ _ _ hlt
  clear hT
  go_enter Tryf.func8, Tryf.ntmps8
  go_wp2_with (go_at_call 34; refine (cb _).mono ?_; rintro e w1 ⟨rfl, rfl⟩)
  refine (cA _ HA.out (Below.refl _ _)).mono ?_
  rintro e w1 ⟨L1, tok1, rfl, _, hb1, g1⟩
  clear cb hb1
  go_wp2_with (fail)
  refine (cA _ g1.choose_spec.2.1 g1.choose_spec.1).mono ?_
  rintro e w2 ⟨L2, tok2, rfl, hL2, hb2, g2⟩
  have q1 := g1.lt
  have n12 : L1 < L2 := by omega
  have g1 := g1.keep hb2
  clear hb2 hL2 q1
  go_wp2_with (fail)
  refine (cA _ g1.choose_spec.2.1 g1.choose_spec.1).mono ?_
  rintro e w3 ⟨L3, tok3, rfl, hL3, hb3, g3⟩
  have q2 := g2.lt
  have n23 : L2 < L3 := by omega
  have g1 := g1.keep hb3
  have g2 := g2.keep hb3
  clear hb3 hL3 q2
  go_wp2_with (fail)
  refine (cA _ g1.choose_spec.2.1 g1.choose_spec.1).mono ?_
  rintro e w4 ⟨L4, tok4, rfl, hL4, hb4, g4⟩
  have q3 := g3.lt
  have n34 : L3 < L4 := by omega
  have g1 := g1.keep hb4
  have g2 := g2.keep hb4
  have g3 := g3.keep hb4
  clear hb4 hL4 q3 cA
  have c1 := zzendByte_St _ _ _ _ _ _ _ _ _ g3
  have c2 := zzendRune_St _ _ _ _ _ _ _ _ _ g3
  go_wp2_with (fail)
  refine c1.mono ?_
  rintro e wq ⟨rfl, rfl⟩
  go_wp2_with (fail)
  refine c2.mono ?_
  rintro e wq ⟨rfl, rfl⟩
  clear c1 c2
  go_wp2_with (fail)
  refine (cP _).mono ?_
  rintro e w5 ⟨rfl, hb5⟩
  have g1 := g1.keep hb5
  have g2 := g2.keep hb5
  have g3 := g3.keep hb5
  have g4 := g4.keep hb5
  clear hb5 cP
  go_wp2_with (fail)
  refine (zzacc_any _ _ _ v1 _ _ _ _ _ _ g1 (by omega) _ H1.out).mono ?_
  rintro e w6 ⟨rfl, g1, hc, hB⟩
  have g2 := g2.frame hc hB (by omega)
  have g3 := g3.frame hc hB (by omega)
  have g4 := g4.frame hc hB (by omega)
  clear hc hB
  go_wp2_with (fail)
  refine (zzacc_any _ _ _ v2 _ _ _ _ _ _ g2 (by omega) _ H2.out).mono ?_
  rintro e w7 ⟨rfl, g2, hc, hB⟩
  have g1 := g1.frame hc hB (by omega)
  have g3 := g3.frame hc hB (by omega)
  have g4 := g4.frame hc hB (by omega)
  clear hc hB
  go_wp2_with (fail)
  refine (zzacc_any _ _ _ (v1 ++ nul ++ v2) _ _ _ _ _ _ g4 (by omega) _ H4.out).mono ?_
  rintro e w8 ⟨rfl, g4, hc, hB⟩
  have g1 := g1.frame hc hB (by omega)
  have g2 := g2.frame hc hB (by omega)
  have g3 := g3.frame hc hB (by omega)
  clear hc hB n12 n23 n34
  clear g1 g2 g4
  go_wp2_with (fail)
  refine (zzacc_any _ _ _ _ _ _ _ _ _ _ g3 (by omega) false (acc_empty _ _ _ (by rfl))).mono ?_
  rintro e w9 ⟨rfl, g3, _, _⟩
  replace g3 : St _ _ _ _ _ _ k _ _ := g3
  have c1 := zzendByte_St _ _ _ _ _ _ _ _ _ g3
  have c2 := zzendRune_St _ _ _ _ _ _ _ _ _ g3
  have hfin := g3.choose_spec.1
  clear g3
  go_wp2_with (fail)
  refine c1.mono ?_
  rintro e wq ⟨rfl, rfl⟩
  go_wp2_with (fail)
  refine c2.mono ?_
  rintro e wq ⟨rfl, rfl⟩
  clear c1 c2
  go_wp2
  go_ret
  exact ⟨rfl, hfin⟩

set_option maxHeartbeats 16000000 in
theorem union_at (s v1 v2 : ByteArray) (k : Nat) (w : World) (hT : Tabs w) (hs : s.size + v1.size + v2.size ≤ 1048576) (hk : (k : Int) ≤ (s.size : Int) + 1) (hlt : (pos s k).1 < s.size) (x0 : UInt8) (e0 : s[(pos s k).1]'hlt = x0) (b1 b2 z : Bool) (hb1 : acc s v1 (pos s k).1 = b1) (hb2 : acc s v2 (pos s k).1 = b2) (hz : ((x0.toNat : Int) == 0) = z) :
    Calls Tryf.prog 8 #[.string s, .int .i64 (k : Int), .string v1, .string v2] w fun e w' => e = .returned (.bool true) ∧ Below w.heap.size w w' := by
  have cb := fun W => ubytes_ok s v1 v2 (k : Int) W hs
  have h1 : ¬ (1048576 < (s.size : Int) + (v1.size : Int) + (v2.size : Int)) := by omega
  have h2 : ¬ ((k : Int) < 0) := by omega
  have h3 : ¬ ((s.size : Int) + 1 < (k : Int)) := by omega
  have HA : Hid (Anch w.heap.size w) := Anch.start hT
  have cA : ∀ W, Anch w.heap.size W → Below w.heap.size w W → Calls Tryf.prog 18 #[.string s, .int .i64 (k : Int)] W (AtPost w.heap.size s k w W) := fun W p q => zzAt_any w.heap.size s k w W p q (by omega) (by omega)
  have cP := fun W => zzPos_any s k W (by omega) (by omega)
  have hpl := pos_le s k
  have hlz : ((pos s k).1 : Int) < (s.size : Int) := by omega
  have H1 : Hid (acc s v1 (pos s k).1 = b1) := hb1
  have H2 : Hid (acc s v2 (pos s k).1 = b2) := hb2
  have H4 : Hid (acc s (v1 ++ nul ++ v2) (pos s k).1 = (b1 || b2 || z)) := by
    show _ = _
    rw [acc_join s v1 v2 _ hlt, hb1, hb2, bt_get s _ hlt, e0, ← hz]
    congr 1
    rw [Bool.eq_iff_iff]
    simp only [beq_iff_eq]
    omega
  clear hT hb1 hb2
  go_enter Tryf.func8, Tryf.ntmps8
  go_wp2_with (go_at_call 34; refine (cb _).mono ?_; rintro e w1 ⟨rfl, rfl⟩)
  refine (cA _ HA.out (Below.refl _ _)).mono ?_
  rintro e w1 ⟨L1, tok1, rfl, _, hb1, g1⟩
  clear cb hb1
  go_wp2_with (fail)
  refine (cA _ g1.choose_spec.2.1 g1.choose_spec.1).mono ?_
  rintro e w2 ⟨L2, tok2, rfl, hL2, hb2, g2⟩
  have q1 := g1.lt
  have n12 : L1 < L2 := by omega
  have g1 := g1.keep hb2
  clear hb2 hL2 q1
  go_wp2_with (fail)
  refine (cA _ g1.choose_spec.2.1 g1.choose_spec.1).mono ?_
  rintro e w3 ⟨L3, tok3, rfl, hL3, hb3, g3⟩
  have q2 := g2.lt
  have n23 : L2 < L3 := by omega
  have g1 := g1.keep hb3
  have g2 := g2.keep hb3
  clear hb3 hL3 q2
  go_wp2_with (fail)
  refine (cA _ g1.choose_spec.2.1 g1.choose_spec.1).mono ?_
  rintro e w4 ⟨L4, tok4, rfl, hL4, hb4, g4⟩
  have q3 := g3.lt
  have n34 : L3 < L4 := by omega
  have g1 := g1.keep hb4
  have g2 := g2.keep hb4
  have g3 := g3.keep hb4
  clear hb4 hL4 q3 cA
  have c1 := zzendByte_St _ _ _ _ _ _ _ _ _ g3
  have c2 := zzendRune_St _ _ _ _ _ _ _ _ _ g3
  go_wp2_with (fail)
  refine c1.mono ?_
  rintro e wq ⟨rfl, rfl⟩
  go_wp2_with (fail)
  refine c2.mono ?_
  rintro e wq ⟨rfl, rfl⟩
  clear c1 c2
  go_wp2_with (fail)
  refine (cP _).mono ?_
  rintro e w5 ⟨rfl, hb5⟩
  have g1 := g1.keep hb5
  have g2 := g2.keep hb5
  have g3 := g3.keep hb5
  have g4 := g4.keep hb5
  clear hb5 cP
  go_wp2_with (fail)
  refine (zzacc_any _ _ _ v1 _ _ _ _ _ _ g1 (by omega) _ H1.out).mono ?_
  rintro e w6 ⟨rfl, g1, hc, hB⟩
  have g2 := g2.frame hc hB (by omega)
  have g3 := g3.frame hc hB (by omega)
  have g4 := g4.frame hc hB (by omega)
  clear hc hB
  go_wp2_with (fail)
  refine (zzacc_any _ _ _ v2 _ _ _ _ _ _ g2 (by omega) _ H2.out).mono ?_
  rintro e w7 ⟨rfl, g2, hc, hB⟩
  have g1 := g1.frame hc hB (by omega)
  have g3 := g3.frame hc hB (by omega)
  have g4 := g4.frame hc hB (by omega)
  clear hc hB
  go_wp2_with (fail)
  refine (zzacc_any _ _ _ (v1 ++ nul ++ v2) _ _ _ _ _ _ g4 (by omega) _ H4.out).mono ?_
  rintro e w8 ⟨rfl, g4, hc, hB⟩
  have g1 := g1.frame hc hB (by omega)
  have g2 := g2.frame hc hB (by omega)
  have g3 := g3.frame hc hB (by omega)
  clear hc hB n12 n23 n34
  cases b1 with
  | true =>
    cases b2 with
    | true =>
      replace g1 : St _ _ _ _ _ _ (k + 1) _ _ := g1
      replace g2 : St _ _ _ _ _ _ (k + 1) _ _ := g2
      replace g4 : St _ _ _ _ _ _ (k + 1) _ _ := g4
      have c1 := zzendByte_St _ _ _ _ _ _ _ _ _ g1
      have c2 := zzendRune_St _ _ _ _ _ _ _ _ _ g1
      have c3 := zzendByte_St _ _ _ _ _ _ _ _ _ g4
      have c4 := zzendRune_St _ _ _ _ _ _ _ _ _ g4
      go_wp2_with (fail)
      refine c1.mono ?_
      rintro e wq ⟨rfl, rfl⟩
      go_wp2_with (fail)
      refine c3.mono ?_
      rintro e wq ⟨rfl, rfl⟩
      go_wp2_with (fail)
      refine c2.mono ?_
      rintro e wq ⟨rfl, rfl⟩
      go_wp2_with (fail)
      refine c4.mono ?_
      rintro e wq ⟨rfl, rfl⟩
      clear c1 c2 c3 c4
      have c1 := zzendByte_St _ _ _ _ _ _ _ _ _ g2
      have c2 := zzendRune_St _ _ _ _ _ _ _ _ _ g2
      have c3 := zzendByte_St _ _ _ _ _ _ _ _ _ g4
      have c4 := zzendRune_St _ _ _ _ _ _ _ _ _ g4
      go_wp2_with (fail)
      refine c1.mono ?_
      rintro e wq ⟨rfl, rfl⟩
      go_wp2_with (fail)
      refine c3.mono ?_
      rintro e wq ⟨rfl, rfl⟩
      go_wp2_with (fail)
      refine c2.mono ?_
      rintro e wq ⟨rfl, rfl⟩
      go_wp2_with (fail)
      refine c4.mono ?_
      rintro e wq ⟨rfl, rfl⟩
      clear c1 c2 c3 c4
      clear g1 g2 g4
      go_wp2_with (fail)
      refine (zzacc_any _ _ _ _ _ _ _ _ _ _ g3 (by omega) false (acc_empty _ _ _ (by rfl))).mono ?_
      rintro e w9 ⟨rfl, g3, _, _⟩
      replace g3 : St _ _ _ _ _ _ k _ _ := g3
      have c1 := zzendByte_St _ _ _ _ _ _ _ _ _ g3
      have c2 := zzendRune_St _ _ _ _ _ _ _ _ _ g3
      have hfin := g3.choose_spec.1
      clear g3
      go_wp2_with (fail)
      refine c1.mono ?_
      rintro e wq ⟨rfl, rfl⟩
      go_wp2_with (fail)
      refine c2.mono ?_
      rintro e wq ⟨rfl, rfl⟩
      clear c1 c2
      go_wp2
      go_ret
      exact ⟨rfl, hfin⟩
    | false =>
      replace g1 : St _ _ _ _ _ _ (k + 1) _ _ := g1
      replace g4 : St _ _ _ _ _ _ (k + 1) _ _ := g4
      have c1 := zzendByte_St _ _ _ _ _ _ _ _ _ g1
      have c2 := zzendRune_St _ _ _ _ _ _ _ _ _ g1
      have c3 := zzendByte_St _ _ _ _ _ _ _ _ _ g4
      have c4 := zzendRune_St _ _ _ _ _ _ _ _ _ g4
      go_wp2_with (fail)
      refine c1.mono ?_
      rintro e wq ⟨rfl, rfl⟩
      go_wp2_with (fail)
      refine c3.mono ?_
      rintro e wq ⟨rfl, rfl⟩
      go_wp2_with (fail)
      refine c2.mono ?_
      rintro e wq ⟨rfl, rfl⟩
      go_wp2_with (fail)
      refine c4.mono ?_
      rintro e wq ⟨rfl, rfl⟩
      clear c1 c2 c3 c4
      clear g1 g2 g4
      go_wp2_with (fail)
      refine (zzacc_any _ _ _ _ _ _ _ _ _ _ g3 (by omega) false (acc_empty _ _ _ (by rfl))).mono ?_
      rintro e w9 ⟨rfl, g3, _, _⟩
      replace g3 : St _ _ _ _ _ _ k _ _ := g3
      have c1 := zzendByte_St _ _ _ _ _ _ _ _ _ g3
      have c2 := zzendRune_St _ _ _ _ _ _ _ _ _ g3
      have hfin := g3.choose_spec.1
      clear g3
      go_wp2_with (fail)
      refine c1.mono ?_
      rintro e wq ⟨rfl, rfl⟩
      go_wp2_with (fail)
      refine c2.mono ?_
      rintro e wq ⟨rfl, rfl⟩
      clear c1 c2
      go_wp2
      go_ret
      exact ⟨rfl, hfin⟩
  | false =>
    cases b2 with
    | true =>
      replace g2 : St _ _ _ _ _ _ (k + 1) _ _ := g2
      replace g4 : St _ _ _ _ _ _ (k + 1) _ _ := g4
      have c1 := zzendByte_St _ _ _ _ _ _ _ _ _ g2
      have c2 := zzendRune_St _ _ _ _ _ _ _ _ _ g2
      have c3 := zzendByte_St _ _ _ _ _ _ _ _ _ g4
      have c4 := zzendRune_St _ _ _ _ _ _ _ _ _ g4
      go_wp2_with (fail)
      refine c1.mono ?_
      rintro e wq ⟨rfl, rfl⟩
      go_wp2_with (fail)
      refine c3.mono ?_
      rintro e wq ⟨rfl, rfl⟩
      go_wp2_with (fail)
      refine c2.mono ?_
      rintro e wq ⟨rfl, rfl⟩
      go_wp2_with (fail)
      refine c4.mono ?_
      rintro e wq ⟨rfl, rfl⟩
      clear c1 c2 c3 c4
      clear g1 g2 g4
      go_wp2_with (fail)
      refine (zzacc_any _ _ _ _ _ _ _ _ _ _ g3 (by omega) false (acc_empty _ _ _ (by rfl))).mono ?_
      rintro e w9 ⟨rfl, g3, _, _⟩
      replace g3 : St _ _ _ _ _ _ k _ _ := g3
      have c1 := zzendByte_St _ _ _ _ _ _ _ _ _ g3
      have c2 := zzendRune_St _ _ _ _ _ _ _ _ _ g3
      have hfin := g3.choose_spec.1
      clear g3
      go_wp2_with (fail)
      refine c1.mono ?_
      rintro e wq ⟨rfl, rfl⟩
      go_wp2_with (fail)
      refine c2.mono ?_
      rintro e wq ⟨rfl, rfl⟩
      clear c1 c2
      go_wp2
      go_ret
      exact ⟨rfl, hfin⟩
    | false =>
      cases z with
      | true =>
        replace g4 : St _ _ _ _ _ _ (k + 1) _ _ := g4
        clear g1 g2 g4
        go_wp2_with (fail)
        refine (zzacc_any _ _ _ _ _ _ _ _ _ _ g3 (by omega) false (acc_empty _ _ _ (by rfl))).mono ?_
        rintro e w9 ⟨rfl, g3, _, _⟩
        replace g3 : St _ _ _ _ _ _ k _ _ := g3
        have c1 := zzendByte_St _ _ _ _ _ _ _ _ _ g3
        have c2 := zzendRune_St _ _ _ _ _ _ _ _ _ g3
        have hfin := g3.choose_spec.1
        clear g3
        go_wp2_with (fail)
        refine c1.mono ?_
        rintro e wq ⟨rfl, rfl⟩
        go_wp2_with (fail)
        refine c2.mono ?_
        rintro e wq ⟨rfl, rfl⟩
        clear c1 c2
        go_wp2
        go_ret
        exact ⟨rfl, hfin⟩
      | false =>
        clear g1 g2 g4
        go_wp2_with (fail)
        refine (zzacc_any _ _ _ _ _ _ _ _ _ _ g3 (by omega) false (acc_empty _ _ _ (by rfl))).mono ?_
        rintro e w9 ⟨rfl, g3, _, _⟩
        replace g3 : St _ _ _ _ _ _ k _ _ := g3
        have c1 := zzendByte_St _ _ _ _ _ _ _ _ _ g3
        have c2 := zzendRune_St _ _ _ _ _ _ _ _ _ g3
        have hfin := g3.choose_spec.1
        clear g3
        go_wp2_with (fail)
        refine c1.mono ?_
        rintro e wq ⟨rfl, rfl⟩
        go_wp2_with (fail)
        refine c2.mono ?_
        rintro e wq ⟨rfl, rfl⟩
        clear c1 c2
        go_wp2
        go_ret
        exact ⟨rfl, hfin⟩

/-- FnAcceptUnion: true, whatever the input. -/
theorem union_walk (s : ByteArray) (k : Int) (v1 v2 : ByteArray) (w : World) (hT : Tabs w) :
    Calls Tryf.prog 8 #[.string s, .int .i64 k, .string v1, .string v2] w fun e w' => e = .returned (.bool true) ∧ Below w.heap.size w w' := by
  by_cases hs : s.size + v1.size + v2.size ≤ 1048576
  · by_cases h : 0 ≤ k ∧ k ≤ s.size + 1
    · obtain ⟨n, rfl⟩ : ∃ n : Nat, k = (n : Int) := ⟨k.toNat, by omega⟩
      by_cases hlt : (pos s n).1 < s.size
      · exact union_at s v1 v2 n w hT hs h.2 hlt _ rfl _ _ _ rfl rfl rfl
      · exact union_end s v1 v2 n w hT hs h.2 hlt
    · exact union_out s v1 v2 k w hs h
  · exact union_big s v1 v2 k w hs

end Go.Proofs.YtdlkdojgbiahgaaFmt.Lx
