/-
  The walk of FnWordConcat: it returns true for every input. Condition: the tables are laid.
-/
import Derived.Test.YtdlkdojgbiahgaaFmtLxShim
namespace Go.Proofs.YtdlkdojgbiahgaaFmt.Lx
open Go.RowKit Go.Lib

theorem bytes_ok (s : ByteArray) (a b : Int) (w : World) (h : s.size ≤ 1048576) : Calls Tryf.prog 17 #[.string s, .int .i64 a, .int .i64 b] w fun e w' => e = .returned (.bool true) ∧ w = w' := by
  have h1 : ¬ (1048576 < (s.size : Int)) := by omega
  go_enter Tryf.func17, Tryf.ntmps17
  go_wp2
  go_ret
  exact ⟨rfl, rfl⟩
theorem bytes_no (s : ByteArray) (a b : Int) (w : World) (h : ¬ s.size ≤ 1048576) : Calls Tryf.prog 17 #[.string s, .int .i64 a, .int .i64 b] w fun e w' => e = .returned (.bool false) ∧ w = w' := by
  have h1 : 1048576 < (s.size : Int) := by omega
  go_enter Tryf.func17, Tryf.ntmps17
  go_wp2
  go_ret
  exact ⟨rfl, rfl⟩

/-- The arguments that the law speaks of. -/
def InC (s : ByteArray) (a b : Int) : Prop := 0 ≤ a ∧ 0 ≤ b ∧ a ≤ s.size + 1 ∧ b ≤ s.size + 1

theorem concat_out (s : ByteArray) (a b : Int) (w : World) (hs : s.size ≤ 1048576) (h : ¬ InC s a b) :
    Calls Tryf.prog 5 #[.string s, .int .i64 a, .int .i64 b] w fun e w' => e = .returned (.bool true) ∧ Below w.heap.size w w' := by
  have cb := fun W => bytes_ok s a b W hs
  have h1 : ¬ (1048576 < (s.size : Int)) := by omega
  by_cases ha : a < 0
  · clear h
    go_enter Tryf.func5, Tryf.ntmps5
    go_wp2_with (go_at_call 17; refine (cb _).mono ?_; rintro e w1 ⟨rfl, rfl⟩)
    go_ret
    exact ⟨rfl, Below.refl _ _⟩
  by_cases hb : b < 0
  · clear h
    go_enter Tryf.func5, Tryf.ntmps5
    go_wp2_with (go_at_call 17; refine (cb _).mono ?_; rintro e w1 ⟨rfl, rfl⟩)
    go_ret
    exact ⟨rfl, Below.refl _ _⟩
  by_cases ha2 : (s.size : Int) + 1 < a
  · clear h
    go_enter Tryf.func5, Tryf.ntmps5
    go_wp2_with (go_at_call 17; refine (cb _).mono ?_; rintro e w1 ⟨rfl, rfl⟩)
    go_ret
    exact ⟨rfl, Below.refl _ _⟩
  by_cases hb2 : (s.size : Int) + 1 < b
  · clear h
    go_enter Tryf.func5, Tryf.ntmps5
    go_wp2_with (go_at_call 17; refine (cb _).mono ?_; rintro e w1 ⟨rfl, rfl⟩)
    go_ret
    exact ⟨rfl, Below.refl _ _⟩
  exact absurd ⟨by omega, by omega, by omega, by omega⟩ h

theorem concat_big (s : ByteArray) (a b : Int) (w : World) (hs : ¬ s.size ≤ 1048576) :
    Calls Tryf.prog 5 #[.string s, .int .i64 a, .int .i64 b] w fun e w' => e = .returned (.bool true) ∧ Below w.heap.size w w' := by
  have cb := fun W => bytes_no s a b W hs
  go_enter Tryf.func5, Tryf.ntmps5
  go_wp2_with (go_at_call 17; refine (cb _).mono ?_; rintro e w1 ⟨rfl, rfl⟩)
  go_ret
  exact ⟨rfl, Below.refl _ _⟩

theorem cat_take (s : ByteArray) (p q : Nat) (hp : p ≤ q) : s.extract 0 p ++ s.extract p q = s.extract 0 q := by
  rw [ByteArray.extract_append_extract]
  congr 1 <;> omega

set_option maxHeartbeats 4000000 in
theorem concat_in (s : ByteArray) (a b : Nat) (w : World) (hT : Tabs w) (hs : s.size ≤ 1048576) (ha : (a : Int) ≤ (s.size : Int) + 1) (hb : (b : Int) ≤ (s.size : Int) + 1) :
    Calls Tryf.prog 5 #[.string s, .int .i64 (a : Int), .int .i64 (b : Int)] w fun e w' => e = .returned (.bool true) ∧ Below w.heap.size w w' := by
  have cb := fun W => bytes_ok s (a : Int) (b : Int) W hs
  have n0 : ¬ (1048576 < (s.size : Int)) := by omega
  have n1 : ¬ ((s.size : Int) + 1 < (a : Int)) := by omega
  have n2 : ¬ ((s.size : Int) + 1 < (b : Int)) := by omega
  have HA : Hid (Anch w.heap.size w) := Anch.start hT
  have cA := zzAt_any w.heap.size s a w w HA.out (Below.refl _ _) (by omega) (by omega)
  have cA2 : ∀ W, Anch w.heap.size W → Below w.heap.size w W → Calls Tryf.prog 18 #[.string s, .int .i64 ((a : Int) + (b : Int))] W (AtPost w.heap.size s (a + b) w W) := fun W p q => zzAt_any w.heap.size s (a + b) w W p q (by omega) (by omega)
  have hpp : (pos s a).1 ≤ (pos s (a + b)).1 ∧ (pos s (a + b)).1 ≤ s.size := by
    rw [pos_adv]
    have := adv_le s (pos s a) (pos_le s a).1 b
    omega
  have hcat := cat_take s (pos s a).1 (pos s (a + b)).1 hpp.1
  have HC : Hid (s.extract 0 (pos s a).1 ++ s.extract (pos s a).1 (pos s (a + b)).1 = s.extract 0 (pos s (a + b)).1) := hcat
  have HS : Hid ((s.extract 0 (pos s (a + b)).1).size = (pos s (a + b)).1) := size_take s _ hpp.2
  clear hcat hT
  go_enter Tryf.func5, Tryf.ntmps5
  go_wp2_with (first | (go_at_call 17; refine (cb _).mono ?_; rintro e w1 ⟨rfl, rfl⟩))
  refine cA.mono ?_
  rintro e w1 ⟨L1, tok1, rfl, hL1, hb1, h1⟩
  have cW := zzword_St _ _ _ _ _ _ _ _ _ h1 (Nat.zero_le _) (by omega)
  clear cA cb
  go_wp2_with (first | (go_at_call 19; refine cW.mono ?_; rintro e w2 ⟨rfl, hb2⟩))
  have g1 := h1.keep hb2
  clear cW h1 hb1 hb2
  refine (zzcommit_St _ _ _ _ _ _ _ _ _ g1).mono ?_
  rintro e w3 ⟨rfl, g3⟩
  clear g1
  go_wp2_with (fail)
  go_loopw [9] (fun i wr => ∃ n : Nat, n ≤ b ∧ i = .int .i64 (n : Int) ∧ St w.heap.size L1 s tok1 (pos s a).1 (pos s a).2 (a + n) w wr) (fun i _ => b - (intOf i).toNat)
  case atStart => exact ⟨0, Nat.zero_le _, rfl, g3⟩
  case round =>
    obtain ⟨n, hn, rfl, hst⟩ := hrel
    have cn := zznext_St _ _ s _ _ _ _ _ _ hst (by omega)
    by_cases hlt : n < b
    · clear cA2 HC HS
      go_wp2_with (go_at_call 21; refine cn.mono ?_; rintro e w4 ⟨⟨r, rfl⟩, h4⟩)
      go_roundw
      case rel => exact ⟨n + 1, by omega, by go_num, h4⟩
      case measure => simp [intOf]; omega
    · obtain rfl : n = b := by omega
      clear cn
      have cW := zzword_St _ _ _ _ _ _ _ _ _ hst hpp.1 (by omega)
      go_wp2_with (first | (go_at_call 19; refine cW.mono ?_; rintro e w2 ⟨rfl, hb2⟩))
      clear cW
      have g5 := hst.keep hb2
      clear hst hb2
      refine (cA2 _ g5.choose_spec.2.1 g5.choose_spec.1).mono ?_
      rintro e w5 ⟨L2, tok2, rfl, hL2, hb5, h5⟩
      clear cA2
      have g6 := g5.keep hb5
      clear g5 hb5
      have cW := zzword_St _ _ _ _ _ _ _ _ _ h5 (Nat.zero_le _) (by omega)
      go_wp2_with (fail)
      refine cW.mono ?_
      rintro e w6 ⟨rfl, hb6⟩
      have g7 := g6.keep hb6
      have h7 := h5.keep hb6
      clear cW g6 h5 hb6
      have hcat := HC.out
      have hsz := HS.out
      have c1 := zzendByte_St _ _ _ _ _ _ _ _ _ g7
      have c2 := zzendRune_St _ _ _ _ _ _ _ _ _ g7
      have c3 := zzendByte_St _ _ _ _ _ _ _ _ _ h7
      have c4 := zzendRune_St _ _ _ _ _ _ _ _ _ h7
      have hle : (pos s (a + n)).1 ≤ s.size := hpp.2
      clear HC HS
      go_wp2_with (fail)
      refine c1.mono ?_
      rintro e w8 ⟨rfl, rfl⟩
      go_wp2_with (fail)
      refine c3.mono ?_
      rintro e w8 ⟨rfl, rfl⟩
      go_wp2_with (fail)
      refine c2.mono ?_
      rintro e w8 ⟨rfl, rfl⟩
      go_wp2_with (fail)
      refine c4.mono ?_
      rintro e w8 ⟨rfl, rfl⟩
      have hfin := g7.choose_spec.1
      clear c1 c2 c3 c4 hcat hsz
      go_wp2
      go_ret
      exact ⟨rfl, hfin⟩

/-- FnWordConcat: true, whatever the input. -/
theorem concat_walk (s : ByteArray) (a b : Int) (w : World) (hT : Tabs w) :
    Calls Tryf.prog 5 #[.string s, .int .i64 a, .int .i64 b] w fun e w' => e = .returned (.bool true) ∧ Below w.heap.size w w' := by
  by_cases hs : s.size ≤ 1048576
  · by_cases h : InC s a b
    · obtain ⟨h0, h1, h2, h3⟩ := h
      obtain ⟨n, rfl⟩ : ∃ n : Nat, a = (n : Int) := ⟨a.toNat, by omega⟩
      obtain ⟨m, rfl⟩ : ∃ m : Nat, b = (m : Int) := ⟨b.toNat, by omega⟩
      exact concat_in s n m w hT hs h2 h3
    · exact concat_out s a b w hs h
  · exact concat_big s a b w hs

end Go.Proofs.YtdlkdojgbiahgaaFmt.Lx
