/-
  Contracts of the law's own helpers zzIn (is a rune among the runes of a text) and zzPos (the place behind k runes), and of the shims accept, startByte, startRune. Conditions: the tables are laid, the texts have at most 2^30 bytes.
-/
import Derived.Test.YtdlkdojgbiahgaaFmtLxDecodeAll
import Derived.Test.YtdlkdojgbiahgaaFmtLxShim
import Derived.Test.YtdlkdojgbiahgaaFmtLxAccept
namespace Go.Proofs.YtdlkdojgbiahgaaFmt.Lx
open Go.RowKit Go.Lib

theorem pos_stay (s : ByteArray) (m : Nat) (h : ¬ (pos s m).1 < s.size) (d : Nat) : pos s (m + d) = pos s m := by
  induction d with
  | zero => rfl
  | succ d ih =>
    rw [← Nat.add_assoc, pos_end s (m + d) (by rw [ih]; exact h), ih]

set_option maxHeartbeats 1000000 in
theorem zzIn_any (v : ByteArray) (r : Nat) (w : World) (hs : v.size ≤ 1073741824) :
    Calls Tryf.prog 31 #[.string v, .int .i32 (r : Int)] w fun e w' => e = .returned (.bool (has v r 0)) ∧ Below w.heap.size w w' := by
  obtain ⟨b, hb⟩ : ∃ b, has v r 0 = b := ⟨_, rfl⟩
  rw [hb]
  have hr0 : has v r 0 = b := hb
  clear hb
  go_enter Tryf.func31, Tryf.ntmps31
  go_wp2
  go_loopw [5] (fun i wr => ∃ p : Nat, p ≤ v.size ∧ i = .int .i64 (p : Int) ∧ has v r p = b ∧ Below w.heap.size w wr) (fun i _ => v.size - (intOf i).toNat)
  case atStart => exact ⟨0, Nat.zero_le _, rfl, hr0, Below.refl _ _⟩
  case round =>
    obtain ⟨p, hp, rfl, hq, hbel⟩ := hrel
    clear hr0
    by_cases hlt : p < v.size
    · have hlz : (p : Int) < (v.size : Int) := by omega
      have cd := zzDecode_any v p wr hlt hs
      have hw := dw_bounds v p hlt
      have hm := has_miss v r p hlt
      have hh := has_hit v r p hlt
      rw [hq] at hm hh
      generalize dr v p = D at *
      generalize dw v p = K at *
      by_cases e : D = r
      · subst e
        have hbt := hh rfl
        subst hbt
        clear hm hh hq
        go_wp2_with (go_at_call 30; refine cd.mono ?_; rintro e w2 ⟨rfl, hb2⟩)
        go_ret
        exact ⟨rfl, hbel.trans (hb2.mono hbel.size)⟩
      · have hne : ((D : Int) == (r : Int)) = false := by simpa using (fun h : (D : Int) = (r : Int) => e (by omega))
        have hq' : has v r (p + K) = b := (hm e).symm
        clear hm hh hq
        go_wp2_with (go_at_call 30; refine cd.mono ?_; rintro e w2 ⟨rfl, hb2⟩)
        go_roundw
        case rel => exact ⟨p + K, by omega, by go_num, hq', hbel.trans (hb2.mono hbel.size)⟩
        case measure => simp [intOf]; omega
    · have hlz : ¬ (p : Int) < (v.size : Int) := by omega
      have hbf : b = false := by rw [← hq]; exact has_end v r p hlt
      subst hbf
      clear hq
      go_wp2
      go_ret
      exact ⟨rfl, hbel⟩

set_option maxHeartbeats 1000000 in
theorem zzPos_any (s : ByteArray) (k : Nat) (w : World) (hs : s.size ≤ 1073741824) (hk : k ≤ 1073741825) :
    Calls Tryf.prog 28 #[.string s, .int .i64 (k : Int)] w fun e w' => e = .returned (.tuple #[.int .i64 ((pos s k).1 : Int), .int .i64 ((pos s k).2 : Int)]) ∧ Below w.heap.size w w' := by
  obtain ⟨P, hP⟩ : ∃ P, pos s k = P := ⟨_, rfl⟩
  rw [hP]
  have HP : Hid (pos s k = P) := hP
  clear hP
  go_enter Tryf.func28, Tryf.ntmps28
  go_wp2
  go_loopw [6, 7] (fun b n wr => ∃ m : Nat, m ≤ k ∧ b = .int .i64 ((pos s m).1 : Int) ∧ n = .int .i64 (m : Int) ∧ (pos s m).2 = m ∧ Below w.heap.size w wr) (fun _ n _ => k - (intOf n).toNat)
  case atStart => exact ⟨0, Nat.zero_le _, rfl, rfl, rfl, Below.refl _ _⟩
  case round =>
    obtain ⟨m, hm, rfl, rfl, h2, hbel⟩ := hrel
    have hpl := pos_le s m
    have HF : Hid (¬ (pos s m).1 < s.size → pos s k = pos s m) := fun h => by
      have := pos_stay s m h (k - m)
      rw [Nat.add_sub_cancel' hm] at this
      exact this
    have HS : Hid ((pos s m).1 < s.size → pos s (m + 1) = ((pos s m).1 + dw s (pos s m).1, (pos s m).2 + 1)) := pos_step s m
    have HM : Hid ((pos s m).2 = m) := h2
    clear h2
    by_cases hmk : m < k
    · have hmz : (m : Int) < (k : Int) := by omega
      by_cases hlt : (pos s m).1 < s.size
      · have hlz : ((pos s m).1 : Int) < (s.size : Int) := by omega
        have cd := zzDecode_any s (pos s m).1 wr hlt hs
        have hw := dw_bounds s (pos s m).1 hlt
        have e1 := HS.out hlt
        have E1 : Hid ((pos s (m + 1)).1 = (pos s m).1 + dw s (pos s m).1) := congrArg Prod.fst e1
        have E2 : Hid ((pos s (m + 1)).2 = m + 1) := by rw [show (pos s (m + 1)).2 = (pos s m).2 + 1 from congrArg Prod.snd e1, HM.out]; rfl
        clear e1
        generalize dr s (pos s m).1 = D at *
        generalize dw s (pos s m).1 = K at *
        go_wp2_with (go_at_call 30; refine cd.mono ?_; rintro e w2 ⟨rfl, hb2⟩)
        go_roundw
        case rel => exact ⟨m + 1, by omega, by rw [E1.out]; go_num, by go_num, E2.out, hbel.trans (hb2.mono hbel.size)⟩
        case measure => simp [intOf]; omega
      · have hlz : ¬ ((pos s m).1 : Int) < (s.size : Int) := by omega
        have e0 : P = pos s m := by rw [← HP.out, HF.out hlt]
        subst e0
        have e3 := HM.out
        go_wp2
        go_ret2
        exact ⟨rfl, hbel⟩
    · obtain rfl : m = k := by omega
      have e0 : P = pos s m := HP.out.symm
      subst e0
      have e3 := HM.out
      go_wp2
      go_ret2
      exact ⟨rfl, hbel⟩

theorem zzaccept_yes (B L : Nat) (s v : ByteArray) (tok : Value) (sb sr k : Nat) (w0 w : World) (h : St B L s tok sb sr k w0 w) (hs : s.size ≤ 1073741824) (hy : acc s v (pos s k).1 = true) :
    Calls Tryf.prog 29 #[.pointer (some ⟨L, 0, none⟩), .string v] w fun e w' => e = .returned (.bool true) ∧ St B L s tok sb sr (k + 1) w0 w' := by
  obtain ⟨eof, hb, ha, hL, hx⟩ := h
  have hp := pos_le s k
  have c := accept_yes B L _ v w hx ha hs (by simp only; omega) hy
  have hst := pos_step s k (acc_lt hy)
  have fin : ∀ w', Ch [L] w w' → LX 64 w' L ⟨rootV, s, tok, .pointer none, sb, sr, (pos s k).1 + dw s (pos s k).1, (pos s k).2 + 1, eof, false⟩ → St B L s tok sb sr (k + 1) w0 w' := fun w' hc h1 =>
    ⟨eof, hb.trans (hc.below (fun k hk => by simp at hk; omega) ha.le), ha.ch1 hc hL, hL, by rw [hst]; exact h1⟩
  clear hst hy hx ha hb
  go_enter Tryf.func29, Tryf.ntmps29
  go_wp2_with (go_at_call 45; refine c.mono ?_; rintro e w1 ⟨rfl, hc, h1⟩)
  go_ret
  exact ⟨rfl, fin _ hc h1⟩
theorem zzaccept_no (B L : Nat) (s v : ByteArray) (tok : Value) (sb sr k : Nat) (w0 w : World) (h : St B L s tok sb sr k w0 w) (hy : acc s v (pos s k).1 = false) :
    Calls Tryf.prog 29 #[.pointer (some ⟨L, 0, none⟩), .string v] w fun e w' => e = .returned (.bool false) ∧ Below w.heap.size w w' := by
  obtain ⟨eof, hb, ha, hL, hx⟩ := h
  have c := accept_no B L _ v w hx ha hy
  clear hx ha hb
  go_enter Tryf.func29, Tryf.ntmps29
  go_wp2_with (go_at_call 45; refine c.mono ?_; rintro e w1 ⟨rfl, hc⟩)
  go_ret
  exact ⟨rfl, hc⟩
theorem zzstartByte_St (B L : Nat) (s : ByteArray) (tok : Value) (sb sr k : Nat) (w0 w : World) (h : St B L s tok sb sr k w0 w) :
    Calls Tryf.prog 32 #[.pointer (some ⟨L, 0, none⟩)] w fun e w' => e = .returned (.int .i64 (sb : Int)) ∧ w = w' := by
  obtain ⟨eof, hb, ha, hL, hx⟩ := h
  have c4 := hx.c4
  simp only at c4
  clear hx
  go_enter Tryf.func32, Tryf.ntmps32
  go_wp2
  go_ret
  exact ⟨rfl, rfl⟩
theorem zzstartRune_St (B L : Nat) (s : ByteArray) (tok : Value) (sb sr k : Nat) (w0 w : World) (h : St B L s tok sb sr k w0 w) :
    Calls Tryf.prog 33 #[.pointer (some ⟨L, 0, none⟩)] w fun e w' => e = .returned (.int .i64 (sr : Int)) ∧ w = w' := by
  obtain ⟨eof, hb, ha, hL, hx⟩ := h
  have c5 := hx.c5
  simp only at c5
  clear hx
  go_enter Tryf.func33, Tryf.ntmps33
  go_wp2
  go_ret
  exact ⟨rfl, rfl⟩

end Go.Proofs.YtdlkdojgbiahgaaFmt.Lx
