/-
  The walk of FnAcceptExact: it returns true for every input. Condition: the tables are laid.
-/
import Derived.Test.YtdlkdojgbiahgaaFmtLxIn
namespace Go.Proofs.YtdlkdojgbiahgaaFmt.Lx
open Go.RowKit Go.Lib

theorem exact_ok (s v : ByteArray) (k : Int) (w : World) (h : s.size + v.size ≤ 1048576) : Calls Tryf.prog 27 #[.string s, .int .i64 k, .string v] w fun e w' => e = .returned (.bool true) ∧ w = w' := by
  have h1 : ¬ (1048576 < (s.size : Int)) := by omega
  have h2 : ¬ (1048576 < (v.size : Int)) := by omega
  have h3 : ¬ (1048576 < (s.size : Int) + (v.size : Int)) := by omega
  go_enter Tryf.func27, Tryf.ntmps27
  go_wp2
  go_ret
  exact ⟨rfl, rfl⟩
theorem exact_no (s v : ByteArray) (k : Int) (w : World) (h : ¬ s.size + v.size ≤ 1048576) : Calls Tryf.prog 27 #[.string s, .int .i64 k, .string v] w fun e w' => e = .returned (.bool false) ∧ w = w' := by
  by_cases h1 : 1048576 < (s.size : Int)
  · clear h
    go_enter Tryf.func27, Tryf.ntmps27
    go_wp2
    go_ret
    exact ⟨rfl, rfl⟩
  by_cases h2 : 1048576 < (v.size : Int)
  · clear h
    go_enter Tryf.func27, Tryf.ntmps27
    go_wp2
    go_ret
    exact ⟨rfl, rfl⟩
  have h3 : 1048576 < (s.size : Int) + (v.size : Int) := by omega
  clear h
  go_enter Tryf.func27, Tryf.ntmps27
  go_wp2
  go_ret
  exact ⟨rfl, rfl⟩

theorem exact_big (s v : ByteArray) (k : Int) (w : World) (hs : ¬ s.size + v.size ≤ 1048576) :
    Calls Tryf.prog 7 #[.string s, .int .i64 k, .string v] w fun e w' => e = .returned (.bool true) ∧ Below w.heap.size w w' := by
  have cb := fun W => exact_no s v k W hs
  go_enter Tryf.func7, Tryf.ntmps7
  go_wp2_with (go_at_call 27; refine (cb _).mono ?_; rintro e w1 ⟨rfl, rfl⟩)
  go_ret
  exact ⟨rfl, Below.refl _ _⟩
theorem exact_out (s v : ByteArray) (k : Int) (w : World) (hs : s.size + v.size ≤ 1048576) (hk : ¬ (0 ≤ k ∧ k ≤ s.size + 1)) :
    Calls Tryf.prog 7 #[.string s, .int .i64 k, .string v] w fun e w' => e = .returned (.bool true) ∧ Below w.heap.size w w' := by
  have cb := fun W => exact_ok s v k W hs
  have h1 : ¬ (1048576 < (s.size : Int) + (v.size : Int)) := by omega
  by_cases h2 : k < 0
  · clear hk
    go_enter Tryf.func7, Tryf.ntmps7
    go_wp2_with (go_at_call 27; refine (cb _).mono ?_; rintro e w1 ⟨rfl, rfl⟩)
    go_ret
    exact ⟨rfl, Below.refl _ _⟩
  have h3 : (s.size : Int) + 1 < k := by omega
  clear hk
  go_enter Tryf.func7, Tryf.ntmps7
  go_wp2_with (go_at_call 27; refine (cb _).mono ?_; rintro e w1 ⟨rfl, rfl⟩)
  go_ret
  exact ⟨rfl, Below.refl _ _⟩

set_option maxHeartbeats 4000000 in
theorem exact_in (s v : ByteArray) (k : Nat) (w : World) (hT : Tabs w) (hs : s.size + v.size ≤ 1048576) (hk : (k : Int) ≤ (s.size : Int) + 1) :
    Calls Tryf.prog 7 #[.string s, .int .i64 (k : Int), .string v] w fun e w' => e = .returned (.bool true) ∧ Below w.heap.size w w' := by
  have cb := fun W => exact_ok s v (k : Int) W hs
  have h1 : ¬ (1048576 < (s.size : Int) + (v.size : Int)) := by omega
  have h2 : ¬ ((k : Int) < 0) := by omega
  have h3 : ¬ ((s.size : Int) + 1 < (k : Int)) := by omega
  have HA : Hid (Anch w.heap.size w) := Anch.start hT
  have cA := zzAt_any w.heap.size s k w w HA.out (Below.refl _ _) (by omega) (by omega)
  have cP := fun W => zzPos_any s k W (by omega) (by omega)
  have hpl := pos_le s k
  clear hT
  cases hy : acc s v (pos s k).1 with
  | true =>
    have hlt := acc_lt hy
    have hlz : ((pos s k).1 : Int) < (s.size : Int) := by omega
    have hhas := acc_has hy
    have HS : Hid (pos s (k + 1) = ((pos s k).1 + dw s (pos s k).1, (pos s k).2 + 1)) := pos_step s k hlt
    have hw := dw_bounds s (pos s k).1 hlt
    have cd := fun W => zzDecode_any s (pos s k).1 W hlt (by omega)
    have ci := fun W => zzIn_any v (dr s (pos s k).1) W (by omega)
    rw [hhas] at ci
    have HY : Hid (acc s v (pos s k).1 = true) := hy
    clear hy hhas
    go_enter Tryf.func7, Tryf.ntmps7
    go_wp2_with (go_at_call 27; refine (cb _).mono ?_; rintro e w1 ⟨rfl, rfl⟩)
    refine cA.mono ?_
    rintro e w1 ⟨L1, tok1, rfl, hL1, hb1, g1⟩
    clear cA cb hb1
    go_wp2_with (fail)
    refine (cP _).mono ?_
    rintro e w2 ⟨rfl, hb2⟩
    have g2 := g1.keep hb2
    clear g1 hb2
    have ca := zzaccept_yes _ _ _ v _ _ _ _ _ _ g2 (by omega) HY.out
    go_wp2_with (fail)
    refine ca.mono ?_
    rintro e w3 ⟨rfl, g3⟩
    clear g2 ca cP
    have E1 : Hid ((pos s (k + 1)).1 = (pos s k).1 + dw s (pos s k).1) := congrArg Prod.fst HS.out
    have E2 : Hid ((pos s (k + 1)).2 = (pos s k).2 + 1) := congrArg Prod.snd HS.out
    clear HS HY
    generalize dr s (pos s k).1 = D at *
    generalize dw s (pos s k).1 = K at *
    go_wp2_with (first | (go_at_call 30; refine (cd _).mono ?_; rintro e w4 ⟨rfl, hb4⟩) | (go_at_call 31; refine (ci _).mono ?_; rintro e w5 ⟨rfl, hb5⟩))
    have g5 := (g3.keep hb4).keep hb5
    clear g3 hb4 hb5 cd ci
    have c1 := zzendByte_St _ _ _ _ _ _ _ _ _ g5
    have c2 := zzendRune_St _ _ _ _ _ _ _ _ _ g5
    have c3 := zzstartByte_St _ _ _ _ _ _ _ _ _ g5
    have c4 := zzstartRune_St _ _ _ _ _ _ _ _ _ g5
    rw [E1.out] at c1
    rw [E2.out] at c2
    simp only [Int.natCast_add] at c1 c2
    have hfin := g5.choose_spec.1
    clear E1 E2 g5
    refine c1.mono ?_
    rintro e w8 ⟨rfl, rfl⟩
    go_wp2_with (fail)
    refine c2.mono ?_
    rintro e w8 ⟨rfl, rfl⟩
    go_wp2_with (fail)
    refine c3.mono ?_
    rintro e w8 ⟨rfl, rfl⟩
    go_wp2_with (fail)
    refine c4.mono ?_
    rintro e w8 ⟨rfl, rfl⟩
    clear c1 c2 c3 c4
    go_wp2
    go_ret
    exact ⟨rfl, hfin⟩
  | false =>
    have HY : Hid (acc s v (pos s k).1 = false) := hy
    have ci := fun W => zzIn_any v (dr s (pos s k).1) W (by omega)
    by_cases hlt : (pos s k).1 < s.size
    · have hlz : ((pos s k).1 : Int) < (s.size : Int) := by omega
      have hhas : has v (dr s (pos s k).1) 0 = false := by
        unfold acc at hy
        rw [decide_eq_true hlt, Bool.true_and] at hy
        exact hy
      have cd := fun W => zzDecode_any s (pos s k).1 W hlt (by omega)
      rw [hhas] at ci
      clear hy hhas
      go_enter Tryf.func7, Tryf.ntmps7
      go_wp2_with (go_at_call 27; refine (cb _).mono ?_; rintro e w1 ⟨rfl, rfl⟩)
      refine cA.mono ?_
      rintro e w1 ⟨L1, tok1, rfl, hL1, hb1, g1⟩
      clear cA cb hb1
      go_wp2_with (fail)
      refine (cP _).mono ?_
      rintro e w2 ⟨rfl, hb2⟩
      have g2 := g1.keep hb2
      clear g1 hb2
      have ca := zzaccept_no _ _ _ v _ _ _ _ _ _ g2 HY.out
      go_wp2_with (fail)
      refine ca.mono ?_
      rintro e w3 ⟨rfl, hb3⟩
      have g3 := g2.keep hb3
      clear g2 ca cP HY hb3
      generalize dr s (pos s k).1 = D at *
      generalize dw s (pos s k).1 = K at *
      go_wp2_with (first | (go_at_call 30; refine (cd _).mono ?_; rintro e w4 ⟨rfl, hb4⟩) | (go_at_call 31; refine (ci _).mono ?_; rintro e w5 ⟨rfl, hb5⟩))
      have g5 := (g3.keep hb4).keep hb5
      clear g3 hb4 hb5 cd ci
      have c1 := zzendByte_St _ _ _ _ _ _ _ _ _ g5
      have c2 := zzendRune_St _ _ _ _ _ _ _ _ _ g5
      have c3 := zzstartByte_St _ _ _ _ _ _ _ _ _ g5
      have c4 := zzstartRune_St _ _ _ _ _ _ _ _ _ g5
      have hfin := g5.choose_spec.1
      clear g5
      refine c1.mono ?_
      rintro e w8 ⟨rfl, rfl⟩
      go_wp2_with (fail)
      refine c2.mono ?_
      rintro e w8 ⟨rfl, rfl⟩
      go_wp2_with (fail)
      refine c3.mono ?_
      rintro e w8 ⟨rfl, rfl⟩
      go_wp2_with (fail)
      refine c4.mono ?_
      rintro e w8 ⟨rfl, rfl⟩
      clear c1 c2 c3 c4
      go_wp2
      go_ret
      exact ⟨rfl, hfin⟩
    · have hlz : ¬ ((pos s k).1 : Int) < (s.size : Int) := by omega
      clear hy ci
      go_enter Tryf.func7, Tryf.ntmps7
      go_wp2_with (go_at_call 27; refine (cb _).mono ?_; rintro e w1 ⟨rfl, rfl⟩)
      refine cA.mono ?_
      rintro e w1 ⟨L1, tok1, rfl, hL1, hb1, g1⟩
      clear cA cb hb1
      go_wp2_with (fail)
      refine (cP _).mono ?_
      rintro e w2 ⟨rfl, hb2⟩
      have g2 := g1.keep hb2
      clear g1 hb2
      have ca := zzaccept_no _ _ _ v _ _ _ _ _ _ g2 HY.out
      go_wp2_with (fail)
      refine ca.mono ?_
      rintro e w3 ⟨rfl, hb3⟩
      have g5 := g2.keep hb3
      clear g2 ca cP HY hb3
      go_wp2_with (fail)
      have c1 := zzendByte_St _ _ _ _ _ _ _ _ _ g5
      have c2 := zzendRune_St _ _ _ _ _ _ _ _ _ g5
      have c3 := zzstartByte_St _ _ _ _ _ _ _ _ _ g5
      have c4 := zzstartRune_St _ _ _ _ _ _ _ _ _ g5
      have hfin := g5.choose_spec.1
      clear g5
      refine c1.mono ?_
      rintro e w8 ⟨rfl, rfl⟩
      go_wp2_with (fail)
      refine c2.mono ?_
      rintro e w8 ⟨rfl, rfl⟩
      go_wp2_with (fail)
      refine c3.mono ?_
      rintro e w8 ⟨rfl, rfl⟩
      go_wp2_with (fail)
      refine c4.mono ?_
      rintro e w8 ⟨rfl, rfl⟩
      clear c1 c2 c3 c4
      go_wp2
      go_ret
      exact ⟨rfl, hfin⟩

/-- FnAcceptExact: true, whatever the input. -/
theorem exact_walk (s : ByteArray) (k : Int) (v : ByteArray) (w : World) (hT : Tabs w) :
    Calls Tryf.prog 7 #[.string s, .int .i64 k, .string v] w fun e w' => e = .returned (.bool true) ∧ Below w.heap.size w w' := by
  by_cases hs : s.size + v.size ≤ 1048576
  · by_cases h : 0 ≤ k ∧ k ≤ s.size + 1
    · obtain ⟨n, rfl⟩ : ∃ n : Nat, k = (n : Int) := ⟨k.toNat, by omega⟩
      exact exact_in s v n w hT hs h.2
    · exact exact_out s v k w hs h
  · exact exact_big s v k w hs

end Go.Proofs.YtdlkdojgbiahgaaFmt.Lx
