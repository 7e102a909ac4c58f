/-
  Contracts of IsAlphabetic, IsAlphaNumeric, zzIndexRune and zzContainsRune. Condition: the tables are laid.
-/
import Derived.Test.YtdlkdojgbiahgaaGreatFmtLxBase
namespace Go.Proofs.YtdlkdojgbiahgaaGreatFmt.Lx
open Go.RowKit Go.Lib

set_option maxHeartbeats 1000000 in
theorem alphabetic_any (r : Int) (w : World) (hT : Tabs w) (h0 : -2147483648 ≤ r) (h1 : r ≤ 2147483647) :
    Calls Tryz.prog 65 #[.int .i32 r] w fun e w' => e = .returned (.bool (r == 95 || r == 36 || isLetterU r)) ∧ Below w.heap.size w w' := by
  have c := Tryz.unicode_IsLetter_all r w h0 h1 hT.props hT.letter
  by_cases e1 : r = 95
  · subst e1
    clear c
    go_enter Tryz.func65, Tryz.ntmps65
    go_wp2
    go_ret
    exact ⟨rfl, Below.refl _ _⟩
  by_cases e2 : r = 36
  · subst e2
    clear c
    go_enter Tryz.func65, Tryz.ntmps65
    go_wp2
    go_ret
    exact ⟨rfl, Below.refl _ _⟩
  have b1 : (r == 95) = false := by simpa using e1
  have b2 : (r == 36) = false := by simpa using e2
  have hr : (r == 95 || r == 36 || isLetterU r) = isLetterU r := by rw [b1, b2]; rfl
  rw [hr]
  clear hr
  generalize isLetterU r = Z at *
  go_enter Tryz.func65, Tryz.ntmps65
  go_wp2_with (go_at_call 90; refine c.mono ?_; rintro e w' ⟨rfl, hb⟩)
  go_ret
  exact ⟨rfl, hb⟩

set_option maxHeartbeats 1000000 in
theorem alnum_any (r : Int) (w : World) (hT : Tabs w) (h0 : -2147483648 ≤ r) (h1 : r ≤ 2147483647) :
    Calls Tryz.prog 36 #[.int .i32 r] w fun e w' => e = .returned (.bool (anU r)) ∧ Below w.heap.size w w' := by
  have c := alphabetic_any r w hT h0 h1
  have cd := fun W (hb : Below w.heap.size w W) => Tryz.unicode_IsDigit_all r W h0 h1 (hT.below hb).digit
  unfold anU
  generalize isDigitU r = Y at *
  cases hz : (r == 95 || r == 36 || isLetterU r) with
  | true =>
    rw [hz] at c
    rw [Bool.true_or]
    clear cd hz
    go_enter Tryz.func36, Tryz.ntmps36
    go_wp2_with (go_at_call 65; refine c.mono ?_; rintro e w' ⟨rfl, hb⟩)
    go_ret
    exact ⟨rfl, hb⟩
  | false =>
    rw [hz] at c
    rw [Bool.false_or]
    clear hz
    go_enter Tryz.func36, Tryz.ntmps36
    go_wp2_with (first | (go_at_call 65; refine c.mono ?_; rintro e w' ⟨rfl, hb⟩) | (go_at_call 66; refine (cd _ hb).mono ?_; rintro e w2 ⟨rfl, hb2⟩))
    go_ret
    exact ⟨rfl, hb.trans (hb2.mono hb.size)⟩

/-- zzIndexRune: found at some place. -/
def Found (w : World) (e : Ending) (w' : World) : Prop := ∃ z : Nat, e = .returned (.int .i64 (z : Int)) ∧ Below w.heap.size w w'

theorem iter_below (w : World) (s : ByteArray) (p : Nat) : Below w.heap.size w (w.iter s p) := (Below.refl _ _).alloc (Nat.le_refl _) _

/-- A rune that zzIndexRune looks for: 'valid', or the replacement rune. -/
def RuneOk (r : Nat) : Prop := r = 65533 ∨ (r ≤ 1114111 ∧ ¬ (55296 ≤ r ∧ r ≤ 57343))

set_option maxHeartbeats 2000000 in
theorem index_hit (v : ByteArray) (r : Nat) (w : World) (hr : RuneOk r) (hh : has v r 0 = true) :
    Calls Tryz.prog 73 #[.string v, .int .i32 (r : Int)] w (Found w) := by
  have g : (r : Int) = 65533 ∨ (((r : Int) != 65533) = true ∧ (r : Int) < 55296 ∧ ¬ ((r : Int) < 0) ∧ ¬ (1114111 < (r : Int)) ∧ ¬ (55296 ≤ (r : Int))) ∨ (((r : Int) != 65533) = true ∧ ¬ (1114111 < (r : Int)) ∧ 55296 ≤ (r : Int) ∧ ¬ ((r : Int) ≤ 57343) ∧ ¬ ((r : Int) < 0)) := by
    unfold RuneOk at hr
    by_cases e : (r : Int) = 65533
    · exact Or.inl e
    · have hne : ((r : Int) != 65533) = true := by simpa using e
      by_cases k : 55296 ≤ (r : Int)
      · exact Or.inr (Or.inr ⟨hne, by omega, k, by omega, by omega⟩)
      · exact Or.inr (Or.inl ⟨hne, by omega, by omega, by omega, k⟩)
  clear hr
  rcases g with g | g | g
  all_goals
    go_enter Tryz.func73, Tryz.ntmps73
    go_wp2
    clear g
    go_loopw [5, 6] (fun _ _ wr => ∃ pos : Nat, wr = w.iter v pos ∧ has v r pos = true) (fun _ _ wr => v.size - wr.iterPos w.heap.size)
    case atStart => exact ⟨0, rfl, hh⟩
    case round =>
      obtain ⟨pos, rfl, hq⟩ := hrel
      have hlt : pos < v.size := by
        rcases Nat.lt_or_ge pos v.size with k | k
        · exact k
        · rw [has_end v r pos (by omega)] at hq; cases hq
      have hnx : ∀ ty, (Instr.next (.pointer (some ⟨w.heap.size, 0, none⟩)) true ty).run Tryz.prog (w.iter v pos) = _ := fun ty => run_next_any w v pos ty hlt
      have hD : Utf8.decode v pos = (dr v pos, dw v pos) := rfl
      rw [hD] at hnx
      have hw := dw_bounds v pos hlt
      have hm := has_miss v r pos hlt
      clear hD
      generalize dr v pos = D at *
      generalize dw v pos = K at *
      by_cases e : D = r
      · subst e
        clear hm
        go_wp2
        go_ret
        exact ⟨pos, rfl, iter_below _ _ _⟩
      · have hne : ((D : Int) == (r : Int)) = false := by simpa using (fun h : (D : Int) = (r : Int) => e (by omega))
        have hq' : has v r (pos + K) = true := by rw [← hm e]; exact hq
        clear hm hq
        go_wp2
        go_roundw
        case rel => exact ⟨pos + K, rfl, hq'⟩
        case measure => simp; omega

set_option maxHeartbeats 2000000 in
theorem index_miss (v : ByteArray) (r : Nat) (w : World) (hr : RuneOk r) (hh : has v r 0 = false) :
    Calls Tryz.prog 73 #[.string v, .int .i32 (r : Int)] w fun e w' => e = .returned (.int .i64 (-1)) ∧ Below w.heap.size w w' := by
  have g : (r : Int) = 65533 ∨ (((r : Int) != 65533) = true ∧ (r : Int) < 55296 ∧ ¬ ((r : Int) < 0) ∧ ¬ (1114111 < (r : Int)) ∧ ¬ (55296 ≤ (r : Int))) ∨ (((r : Int) != 65533) = true ∧ ¬ (1114111 < (r : Int)) ∧ 55296 ≤ (r : Int) ∧ ¬ ((r : Int) ≤ 57343) ∧ ¬ ((r : Int) < 0)) := by
    unfold RuneOk at hr
    by_cases e : (r : Int) = 65533
    · exact Or.inl e
    · have hne : ((r : Int) != 65533) = true := by simpa using e
      by_cases k : 55296 ≤ (r : Int)
      · exact Or.inr (Or.inr ⟨hne, by omega, k, by omega, by omega⟩)
      · exact Or.inr (Or.inl ⟨hne, by omega, by omega, by omega, k⟩)
  clear hr
  rcases g with g | g | g
  all_goals
    go_enter Tryz.func73, Tryz.ntmps73
    go_wp2
    clear g
    go_loopw [5, 6] (fun _ _ wr => ∃ pos : Nat, wr = w.iter v pos ∧ has v r pos = false) (fun _ _ wr => v.size - wr.iterPos w.heap.size)
    case atStart => exact ⟨0, rfl, hh⟩
    case round =>
      obtain ⟨pos, rfl, hq⟩ := hrel
      by_cases hlt : pos < v.size
      · have hnx : ∀ ty, (Instr.next (.pointer (some ⟨w.heap.size, 0, none⟩)) true ty).run Tryz.prog (w.iter v pos) = _ := fun ty => run_next_any w v pos ty hlt
        have hD : Utf8.decode v pos = (dr v pos, dw v pos) := rfl
        rw [hD] at hnx
        have hw := dw_bounds v pos hlt
        have hm := has_step v r pos hlt
        rw [hq] at hm
        clear hD
        generalize dr v pos = D at *
        generalize dw v pos = K at *
        have h2 := Bool.or_eq_false_iff.1 hm.symm
        have hq' := h2.2
        have hne : ((D : Int) == (r : Int)) = false := by
          have h3 : D ≠ r := by simpa using h2.1
          simpa using (fun h : (D : Int) = (r : Int) => h3 (by omega))
        clear h2 hm hq
        go_wp2
        go_roundw
        case rel => exact ⟨pos + K, rfl, hq'⟩
        case measure => simp; omega
      · have hnx : ∀ ty, (Instr.next (.pointer (some ⟨w.heap.size, 0, none⟩)) true ty).run Tryz.prog (w.iter v pos) = _ := fun ty => run_next_end w v pos ty hlt
        clear hq
        go_wp2
        go_ret
        exact ⟨rfl, iter_below _ _ _⟩

theorem index_eof (v : ByteArray) (w : World) :
    Calls Tryz.prog 73 #[.string v, .int .i32 (-1)] w fun e w' => e = .returned (.int .i64 (-1)) ∧ Below w.heap.size w w' := by
  go_enter Tryz.func73, Tryz.ntmps73
  go_wp2
  go_ret
  exact ⟨rfl, Below.refl _ _⟩

/-- Is r, the rune that stands next or -1, among the runes of v? -/
def inSet (v : ByteArray) (r : Int) : Bool := decide (0 ≤ r) && has v r.toNat 0
theorem inSet_nat (v : ByteArray) (r : Nat) : inSet v (r : Int) = has v r 0 := by unfold inSet; simp
theorem inSet_eof (v : ByteArray) : inSet v (-1) = false := by unfold inSet; simp

set_option maxHeartbeats 1000000 in
theorem contains_nat (v : ByteArray) (r : Nat) (w : World) (hr : RuneOk r) :
    Calls Tryz.prog 49 #[.string v, .int .i32 (r : Int)] w fun e w' => e = .returned (.bool (has v r 0)) ∧ Below w.heap.size w w' := by
  cases hh : has v r 0 with
  | true =>
    have c := index_hit v r w hr hh
    clear hh
    go_enter Tryz.func49, Tryz.ntmps49
    go_wp2_with (go_at_call 73; refine c.mono ?_; rintro e w' ⟨z, rfl, hb⟩)
    go_ret
    exact ⟨rfl, hb⟩
  | false =>
    have c := index_miss v r w hr hh
    clear hh
    go_enter Tryz.func49, Tryz.ntmps49
    go_wp2_with (go_at_call 73; refine c.mono ?_; rintro e w' ⟨rfl, hb⟩)
    go_ret
    exact ⟨rfl, hb⟩
theorem contains_eof (v : ByteArray) (w : World) :
    Calls Tryz.prog 49 #[.string v, .int .i32 (-1)] w fun e w' => e = .returned (.bool false) ∧ Below w.heap.size w w' := by
  have c := index_eof v w
  go_enter Tryz.func49, Tryz.ntmps49
  go_wp2_with (go_at_call 73; refine c.mono ?_; rintro e w' ⟨rfl, hb⟩)
  go_ret
  exact ⟨rfl, hb⟩
/-- What stands next, asked for. -/
theorem contains_pk (s v : ByteArray) (p : Nat) (w : World) :
    Calls Tryz.prog 49 #[.string v, .int .i32 (pk s p)] w fun e w' => e = .returned (.bool (acc s v p)) ∧ Below w.heap.size w w' := by
  unfold pk acc
  by_cases hp : p < s.size
  · rw [if_pos hp, decide_eq_true hp, Bool.true_and]
    exact contains_nat v _ w (dr_valid s p)
  · rw [if_neg hp, decide_eq_false hp, Bool.false_and]
    exact contains_eof v w

end Go.Proofs.YtdlkdojgbiahgaaGreatFmt.Lx
