/-
  Contracts of the law's own helpers: zzAsciiAlnum, zzAlnumRun, zzWordKind, zzNegatable, zzIsTok; and of Len and Dequeue at a lexer's ring.
-/
import Derived.Test.YtdlkdojgbiahgaaGreatFmtLxIdent
namespace Go.Proofs.YtdlkdojgbiahgaaGreatFmt.Lx
open Go.RowKit Go.Lib

theorem an8_any (x : Nat) (w : World) (hx : x < 256) : Calls Tryz.prog 7 #[.int .u8 (x : Int)] w fun e w' => e = .returned (.bool (an8 x)) ∧ Below w.heap.size w w' := by
  by_cases r0 : x ≤ 35
  · have e : an8 x = false := by
      rw [Bool.eq_false_iff]
      unfold an8
      simp only [ne_eq, Bool.or_eq_true, Bool.and_eq_true, decide_eq_true_eq, beq_iff_eq]
      omega
    rw [e]
    have a1 : ¬ 97 ≤ (x : Int) := by omega
    have a3 : ¬ 65 ≤ (x : Int) := by omega
    have a5 : ¬ 48 ≤ (x : Int) := by omega
    have a2 : (x : Int) ≤ 122 := by omega
    have a4 : (x : Int) ≤ 90 := by omega
    have a6 : (x : Int) ≤ 57 := by omega
    have a7 : ((x : Int) == 95) = false := by simp; omega
    have a8 : ((x : Int) == 36) = false := by simp; omega
    go_enter Tryz.func7, Tryz.ntmps7
    go_wp2
    go_ret
    exact ⟨rfl, Below.refl _ _⟩
  by_cases r1 : x ≤ 36
  · have e : an8 x = true := by
      unfold an8
      simp only [Bool.or_eq_true, Bool.and_eq_true, decide_eq_true_eq, beq_iff_eq]
      omega
    rw [e]
    have a1 : ¬ 97 ≤ (x : Int) := by omega
    have a3 : ¬ 65 ≤ (x : Int) := by omega
    have a5 : ¬ 48 ≤ (x : Int) := by omega
    have a2 : (x : Int) ≤ 122 := by omega
    have a4 : (x : Int) ≤ 90 := by omega
    have a6 : (x : Int) ≤ 57 := by omega
    have a7 : ((x : Int) == 95) = false := by simp; omega
    have a8 : ((x : Int) == 36) = true := by simp; omega
    go_enter Tryz.func7, Tryz.ntmps7
    go_wp2
    go_ret
    exact ⟨rfl, Below.refl _ _⟩
  by_cases r2 : x ≤ 47
  · have e : an8 x = false := by
      rw [Bool.eq_false_iff]
      unfold an8
      simp only [ne_eq, Bool.or_eq_true, Bool.and_eq_true, decide_eq_true_eq, beq_iff_eq]
      omega
    rw [e]
    have a1 : ¬ 97 ≤ (x : Int) := by omega
    have a3 : ¬ 65 ≤ (x : Int) := by omega
    have a5 : ¬ 48 ≤ (x : Int) := by omega
    have a2 : (x : Int) ≤ 122 := by omega
    have a4 : (x : Int) ≤ 90 := by omega
    have a6 : (x : Int) ≤ 57 := by omega
    have a7 : ((x : Int) == 95) = false := by simp; omega
    have a8 : ((x : Int) == 36) = false := by simp; omega
    go_enter Tryz.func7, Tryz.ntmps7
    go_wp2
    go_ret
    exact ⟨rfl, Below.refl _ _⟩
  by_cases r3 : x ≤ 57
  · have e : an8 x = true := by
      unfold an8
      simp only [Bool.or_eq_true, Bool.and_eq_true, decide_eq_true_eq, beq_iff_eq]
      omega
    rw [e]
    have a1 : ¬ 97 ≤ (x : Int) := by omega
    have a3 : ¬ 65 ≤ (x : Int) := by omega
    have a5 : 48 ≤ (x : Int) := by omega
    have a2 : (x : Int) ≤ 122 := by omega
    have a4 : (x : Int) ≤ 90 := by omega
    have a6 : (x : Int) ≤ 57 := by omega
    have a7 : ((x : Int) == 95) = false := by simp; omega
    have a8 : ((x : Int) == 36) = false := by simp; omega
    go_enter Tryz.func7, Tryz.ntmps7
    go_wp2
    go_ret
    exact ⟨rfl, Below.refl _ _⟩
  by_cases r4 : x ≤ 64
  · have e : an8 x = false := by
      rw [Bool.eq_false_iff]
      unfold an8
      simp only [ne_eq, Bool.or_eq_true, Bool.and_eq_true, decide_eq_true_eq, beq_iff_eq]
      omega
    rw [e]
    have a1 : ¬ 97 ≤ (x : Int) := by omega
    have a3 : ¬ 65 ≤ (x : Int) := by omega
    have a5 : 48 ≤ (x : Int) := by omega
    have a2 : (x : Int) ≤ 122 := by omega
    have a4 : (x : Int) ≤ 90 := by omega
    have a6 : ¬ (x : Int) ≤ 57 := by omega
    have a7 : ((x : Int) == 95) = false := by simp; omega
    have a8 : ((x : Int) == 36) = false := by simp; omega
    go_enter Tryz.func7, Tryz.ntmps7
    go_wp2
    go_ret
    exact ⟨rfl, Below.refl _ _⟩
  by_cases r5 : x ≤ 90
  · have e : an8 x = true := by
      unfold an8
      simp only [Bool.or_eq_true, Bool.and_eq_true, decide_eq_true_eq, beq_iff_eq]
      omega
    rw [e]
    have a1 : ¬ 97 ≤ (x : Int) := by omega
    have a3 : 65 ≤ (x : Int) := by omega
    have a5 : 48 ≤ (x : Int) := by omega
    have a2 : (x : Int) ≤ 122 := by omega
    have a4 : (x : Int) ≤ 90 := by omega
    have a6 : ¬ (x : Int) ≤ 57 := by omega
    have a7 : ((x : Int) == 95) = false := by simp; omega
    have a8 : ((x : Int) == 36) = false := by simp; omega
    go_enter Tryz.func7, Tryz.ntmps7
    go_wp2
    go_ret
    exact ⟨rfl, Below.refl _ _⟩
  by_cases r6 : x ≤ 94
  · have e : an8 x = false := by
      rw [Bool.eq_false_iff]
      unfold an8
      simp only [ne_eq, Bool.or_eq_true, Bool.and_eq_true, decide_eq_true_eq, beq_iff_eq]
      omega
    rw [e]
    have a1 : ¬ 97 ≤ (x : Int) := by omega
    have a3 : 65 ≤ (x : Int) := by omega
    have a5 : 48 ≤ (x : Int) := by omega
    have a2 : (x : Int) ≤ 122 := by omega
    have a4 : ¬ (x : Int) ≤ 90 := by omega
    have a6 : ¬ (x : Int) ≤ 57 := by omega
    have a7 : ((x : Int) == 95) = false := by simp; omega
    have a8 : ((x : Int) == 36) = false := by simp; omega
    go_enter Tryz.func7, Tryz.ntmps7
    go_wp2
    go_ret
    exact ⟨rfl, Below.refl _ _⟩
  by_cases r7 : x ≤ 95
  · have e : an8 x = true := by
      unfold an8
      simp only [Bool.or_eq_true, Bool.and_eq_true, decide_eq_true_eq, beq_iff_eq]
      omega
    rw [e]
    have a1 : ¬ 97 ≤ (x : Int) := by omega
    have a3 : 65 ≤ (x : Int) := by omega
    have a5 : 48 ≤ (x : Int) := by omega
    have a2 : (x : Int) ≤ 122 := by omega
    have a4 : ¬ (x : Int) ≤ 90 := by omega
    have a6 : ¬ (x : Int) ≤ 57 := by omega
    have a7 : ((x : Int) == 95) = true := by simp; omega
    have a8 : ((x : Int) == 36) = false := by simp; omega
    go_enter Tryz.func7, Tryz.ntmps7
    go_wp2
    go_ret
    exact ⟨rfl, Below.refl _ _⟩
  by_cases r8 : x ≤ 96
  · have e : an8 x = false := by
      rw [Bool.eq_false_iff]
      unfold an8
      simp only [ne_eq, Bool.or_eq_true, Bool.and_eq_true, decide_eq_true_eq, beq_iff_eq]
      omega
    rw [e]
    have a1 : ¬ 97 ≤ (x : Int) := by omega
    have a3 : 65 ≤ (x : Int) := by omega
    have a5 : 48 ≤ (x : Int) := by omega
    have a2 : (x : Int) ≤ 122 := by omega
    have a4 : ¬ (x : Int) ≤ 90 := by omega
    have a6 : ¬ (x : Int) ≤ 57 := by omega
    have a7 : ((x : Int) == 95) = false := by simp; omega
    have a8 : ((x : Int) == 36) = false := by simp; omega
    go_enter Tryz.func7, Tryz.ntmps7
    go_wp2
    go_ret
    exact ⟨rfl, Below.refl _ _⟩
  by_cases r9 : x ≤ 122
  · have e : an8 x = true := by
      unfold an8
      simp only [Bool.or_eq_true, Bool.and_eq_true, decide_eq_true_eq, beq_iff_eq]
      omega
    rw [e]
    have a1 : 97 ≤ (x : Int) := by omega
    have a3 : 65 ≤ (x : Int) := by omega
    have a5 : 48 ≤ (x : Int) := by omega
    have a2 : (x : Int) ≤ 122 := by omega
    have a4 : ¬ (x : Int) ≤ 90 := by omega
    have a6 : ¬ (x : Int) ≤ 57 := by omega
    have a7 : ((x : Int) == 95) = false := by simp; omega
    have a8 : ((x : Int) == 36) = false := by simp; omega
    go_enter Tryz.func7, Tryz.ntmps7
    go_wp2
    go_ret
    exact ⟨rfl, Below.refl _ _⟩
  have e : an8 x = false := by
    rw [Bool.eq_false_iff]
    unfold an8
    simp only [ne_eq, Bool.or_eq_true, Bool.and_eq_true, decide_eq_true_eq, beq_iff_eq]
    omega
  rw [e]
  have a1 : 97 ≤ (x : Int) := by omega
  have a3 : 65 ≤ (x : Int) := by omega
  have a5 : 48 ≤ (x : Int) := by omega
  have a2 : ¬ (x : Int) ≤ 122 := by omega
  have a4 : ¬ (x : Int) ≤ 90 := by omega
  have a6 : ¬ (x : Int) ≤ 57 := by omega
  have a7 : ((x : Int) == 95) = false := by simp; omega
  have a8 : ((x : Int) == 36) = false := by simp; omega
  go_enter Tryz.func7, Tryz.ntmps7
  go_wp2
  go_ret
  exact ⟨rfl, Below.refl _ _⟩

theorem wrd_run (s : ByteArray) (i : Nat) (w : World) (hi : i ≤ s.size) (hs : s.size ≤ 1073741824) :
    Calls Tryz.prog 17 #[.string s, .int .i64 (i : Int)] w fun e w' => e = .returned (.int .i64 (wrd s i : Int)) ∧ Below w.heap.size w w' := by
  obtain ⟨E, hEq⟩ : ∃ E, wrd s i = E := ⟨_, rfl⟩
  rw [hEq]
  have H0 := Lib.hid hEq
  clear hEq
  go_enter Tryz.func17, Tryz.ntmps17
  go_wp2_with (fail)
  go_loopw [1] (fun v wr => ∃ m : Nat, m ≤ s.size ∧ v = .int .i64 (m : Int) ∧ Hid (wrd s m = E) ∧ Below w.heap.size w wr) (fun v _ => s.size - (intOf v).toNat)
  case atStart => exact ⟨i, hi, rfl, H0, Below.refl _ _⟩
  case round =>
    clear H0
    obtain ⟨m, hm, rfl, H1, hbel⟩ := hrel
    by_cases hlt : m < s.size
    · have hlz : (m : Int) < (s.size : Int) := by omega
      have e0 : bt s m = (s[m]'hlt).toNat := bt_get s m hlt
      generalize hx0 : s[m]'hlt = x0 at e0
      have ca := an8_any x0.toNat wr x0.toNat_lt
      cases ha : an8 x0.toNat with
      | true =>
        rw [ha] at ca
        have H2 : Hid (wrd s (m + 1) = E) := (wrd_yes hlt (by rw [e0]; exact ha)).symm.trans H1.out
        clear H1 e0 ha
        go_wp2_with (go_at_call 7; refine ca.mono ?_; rintro e w1 ⟨rfl, hb1⟩)
        go_roundw
        case rel => exact ⟨m + 1, hlt, by go_num, H2, hbel.trans (hb1.mono hbel.size)⟩
        case measure => simp [intOf]; omega
      | false =>
        rw [ha] at ca
        have hmE : m = E := by rw [← H1.out, wrd_no (by rw [e0]; exact ha)]
        subst hmE
        clear H1 e0 ha
        go_wp2_with (go_at_call 7; refine ca.mono ?_; rintro e w1 ⟨rfl, hb1⟩)
        go_ret
        exact ⟨rfl, hbel.trans (hb1.mono hbel.size)⟩
    · have hlz : ¬ (m : Int) < (s.size : Int) := by omega
      have hmE : m = E := by rw [← H1.out, wrd_end hlt]
      subst hmE
      clear H1
      go_wp2
      go_ret
      exact ⟨rfl, hbel⟩

theorem isTok_yes (t : Tk) (w : World) : Calls Tryz.prog 9 #[t.val, .string t.kind, .string t.txt, .int .i64 (t.a : Int), .int .i64 (t.b : Int)] w fun e w' => e = .returned (.bool true) ∧ Below w.heap.size w w' := by
  unfold Tk.val
  go_enter Tryz.func9, Tryz.ntmps9
  go_wp2
  go_ret
  exact ⟨rfl, (Below.refl _ _).alloc (Nat.le_refl _) _⟩

/-- Len, Dequeue at a lexer's ring. -/
theorem len_LQ (B : Nat) (x : LS) (w0 : Base) (w : World) (L R b n : Nat) (l : List Tk) (h : LQ B x w0 w L R b n l) :
    Calls Tryz.prog 24 #[.pointer (some ⟨R, 0, none⟩)] w fun e w' => e = .returned (.int .i64 (n : Int)) ∧ w = w' := by
  rcases h.rq with ⟨D, h1, h2, h2n, h3⟩ | ⟨h1, rfl, rfl, rfl⟩
  · exact ring_len R D b n l w h3
  · exact ring_len0 R w h1
theorem ring_none0 (R : Nat) (w : World) (h : RN 70 w R) :
    Calls Tryz.prog 25 #[.pointer (some ⟨R, 0, none⟩)] w fun e w' => e = .returned (.tuple #[Tk.none.val, .bool false]) ∧ Below w.heap.size w w' := by
  have r2 := h.cell2
  have hlr := h.lt
  clear h
  go_enter Tryz.func25, Tryz.ntmps25
  go_wp2
  exact bodyPost_ret (v := .tuple #[Tk.none.val, .bool false]) (by simp [results, Tryz.results25, go_sem, Tk.val, Tk.none]; rfl) rfl ⟨rfl, (Below.refl _ _).alloc (Nat.le_refl _) _⟩
theorem none_LQ (B : Nat) (x : LS) (w0 : Base) (w : World) (L R b : Nat) (l : List Tk) (h : LQ B x w0 w L R b 0 l) :
    Calls Tryz.prog 25 #[.pointer (some ⟨R, 0, none⟩)] w fun e w' => e = .returned (.tuple #[Tk.none.val, .bool false]) ∧ LQ B x w0 w' L R b 0 l := by
  have hb : Calls Tryz.prog 25 #[.pointer (some ⟨R, 0, none⟩)] w fun e w' => e = .returned (.tuple #[Tk.none.val, .bool false]) ∧ Below w.heap.size w w' := by
    rcases h.rq with ⟨D, h1, h2, h2n, h3⟩ | ⟨h1, rfl, _, rfl⟩
    · exact ring_none R D b l w h3
    · exact ring_none0 R w h1
  refine hb.mono ?_
  rintro e w' ⟨rfl, hb⟩
  exact ⟨rfl, h.below hb⟩
theorem take_LQ (B : Nat) (x : LS) (w0 : Base) (w : World) (L R b n : Nat) (l : List Tk) (t : Tk) (h : LQ B x w0 w L R b (n + 1) l) (hb : b + 1 < 10) (hn : n < 10) (ht : l[b]? = some t) :
    Calls Tryz.prog 25 #[.pointer (some ⟨R, 0, none⟩)] w fun e w' => e = .returned (.tuple #[t.val, .bool true]) ∧ LQ B x w0 w' L R (b + 1) n (l.set b Tk.none) := by
  rcases h.rq with ⟨D, h1, h2, h2n, h3⟩ | ⟨_, _, h2, _⟩
  · obtain ⟨hlt, he⟩ := List.getElem?_eq_some_iff.1 ht
    refine (ring_take R D b n l w h3 hlt hb hn).mono ?_
    rintro e w' ⟨rfl, hc, hx⟩
    have hS : ∀ k, k ∈ [R, D] → B ≤ k := fun k hk => by
      simp at hk
      have := h.bR
      rcases hk with rfl | rfl <;> omega
    exact ⟨by rw [he], h.bel.trans (hc.below hS h.anch.le), h.anch.ch hc hS, h.bL, h.bR, h.ne, h.lx.ch hc (by simp; exact ⟨h.ne, Ne.symm h2⟩), h.tok, Or.inl ⟨D, h1, h2, h2n, hx⟩, fun k hk => have q := h.kq k hk; ⟨q.1, q.2.1, q.2.2.1, (hc.block k (Nat.lt_of_lt_of_le q.1 h.bel.size) (by simp; exact ⟨q.2.2.1, fun e => h2n (e ▸ hk)⟩)).trans q.2.2.2⟩⟩
  · omega

end Go.Proofs.YtdlkdojgbiahgaaGreatFmt.Lx
