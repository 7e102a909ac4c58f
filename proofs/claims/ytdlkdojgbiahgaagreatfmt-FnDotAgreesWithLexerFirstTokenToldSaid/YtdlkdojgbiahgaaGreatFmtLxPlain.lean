/-
  Plain facts on decoding UTF-8: the rune at a place, its width, the place behind k runes, whether a rune stands among the runes of a text. No program in sight; every text, valid or not.
-/
import Derived.Lib.DecodeN
import Derived.Lib.MapLaws
import Derived.Lib.Strings
import Derived.Laws.RangeAny
namespace Go.Proofs.YtdlkdojgbiahgaaGreatFmt.Lx
open Go Go.Lib

/-- The rune at p, and its width. -/
def dr (s : ByteArray) (p : Nat) : Nat := (Utf8.decode s p).1
def dw (s : ByteArray) (p : Nat) : Nat := (Utf8.decode s p).2
/-- The byte at p, 0 beyond the end. -/
def bt (s : ByteArray) (p : Nat) : Nat := (s.get! p).toNat

theorem dec_eq (s : ByteArray) (p : Nat) : Utf8.decode s p = decodeN (s.size - p) (bt s p) (bt s (p + 1)) (bt s (p + 2)) (bt s (p + 3)) := decode_at s p
theorem bt_lt (s : ByteArray) (p : Nat) : bt s p < 256 := UInt8.toNat_lt _
theorem bt_get (s : ByteArray) (p : Nat) (h : p < s.size) : bt s p = (s[p]'h).toNat := by
  unfold bt
  cases s with
  | mk d => exact congrArg UInt8.toNat (getElem!_pos d p h)
theorem bt_out (s : ByteArray) (p : Nat) (h : s.size ≤ p) : bt s p = 0 := by
  unfold bt
  cases s with
  | mk d => rw [show ByteArray.get! ⟨d⟩ p = d[p]! from rfl, getElem!_neg d p (by exact Nat.not_lt.2 h)]; rfl

theorem dw_bounds (s : ByteArray) (p : Nat) (h : p < s.size) : 1 ≤ dw s p ∧ p + dw s p ≤ s.size ∧ dw s p ≤ 4 := by
  unfold dw
  rw [dec_eq]
  rcases decodeN_shape (s.size - p) (bt s p) (bt s (p + 1)) (bt s (p + 2)) (bt s (p + 3)) with ⟨_, e⟩ | ⟨_, _, _, _, e⟩ | ⟨_, _, _, _, _, _, e⟩ | ⟨_, _, _, _, _, _, _, e⟩ | e
  all_goals (rw [e]; simp only; omega)
theorem dr_valid (s : ByteArray) (p : Nat) : dr s p = 65533 ∨ (dr s p ≤ 1114111 ∧ ¬ (55296 ≤ dr s p ∧ dr s p ≤ 57343)) := by
  unfold dr
  rw [dec_eq]
  have h0 := bt_lt s p
  rcases decodeN_shape (s.size - p) (bt s p) (bt s (p + 1)) (bt s (p + 2)) (bt s (p + 3)) with ⟨_, e⟩ | ⟨_, _, _, _, e⟩ | ⟨_, _, _, _, _, _, e⟩ | ⟨_, _, _, _, _, _, _, e⟩ | e
  all_goals (rw [e]; simp only; omega)
theorem dr_le (s : ByteArray) (p : Nat) : dr s p ≤ 1114111 := by have := dr_valid s p; omega
theorem dec_ascii (s : ByteArray) (p : Nat) (h : bt s p < 128) : dr s p = bt s p ∧ dw s p = 1 := by
  unfold dr dw
  rw [dec_eq]
  unfold decodeN
  rw [if_pos h]
  exact ⟨rfl, rfl⟩
theorem dr_high (s : ByteArray) (p : Nat) (h : 128 ≤ bt s p) : 128 ≤ dr s p := by
  unfold dr
  rw [dec_eq]
  rcases decodeN_shape (s.size - p) (bt s p) (bt s (p + 1)) (bt s (p + 2)) (bt s (p + 3)) with ⟨_, e⟩ | ⟨_, _, _, _, e⟩ | ⟨_, _, _, _, _, _, e⟩ | ⟨_, _, _, _, _, _, _, e⟩ | e
  all_goals (rw [e]; simp only; omega)
/-- A rune below 128 is its byte. -/
theorem dr_low (s : ByteArray) (p : Nat) (h : dr s p < 128) : bt s p = dr s p ∧ dw s p = 1 := by
  rcases Nat.lt_or_ge (bt s p) 128 with k | k
  · exact ⟨(dec_ascii s p k).1.symm, (dec_ascii s p k).2⟩
  · have := dr_high s p k; omega

/-- k runes further. -/
def stepP (s : ByteArray) (x : Nat × Nat) : Nat × Nat := if x.1 < s.size then (x.1 + dw s x.1, x.2 + 1) else x
def pos (s : ByteArray) : Nat → Nat × Nat
  | 0 => (0, 0)
  | k + 1 => stepP s (pos s k)
def adv (s : ByteArray) (x : Nat × Nat) : Nat → Nat × Nat
  | 0 => x
  | k + 1 => stepP s (adv s x k)
theorem pos_adv (s : ByteArray) (a b : Nat) : pos s (a + b) = adv s (pos s a) b := by
  induction b with
  | zero => rfl
  | succ b ih => show stepP s (pos s (a + b)) = stepP s (adv s (pos s a) b); rw [ih]
theorem stepP_le (s : ByteArray) (x : Nat × Nat) (h : x.1 ≤ s.size) : x.1 ≤ (stepP s x).1 ∧ (stepP s x).1 ≤ s.size ∧ x.2 ≤ (stepP s x).2 ∧ (stepP s x).2 ≤ x.2 + ((stepP s x).1 - x.1) := by
  unfold stepP
  split
  · rename_i k
    have := dw_bounds s x.1 k
    simp only
    omega
  · omega
theorem adv_le (s : ByteArray) (x : Nat × Nat) (h : x.1 ≤ s.size) (k : Nat) : x.1 ≤ (adv s x k).1 ∧ (adv s x k).1 ≤ s.size ∧ x.2 ≤ (adv s x k).2 ∧ (adv s x k).2 ≤ x.2 + ((adv s x k).1 - x.1) := by
  induction k with
  | zero => simp only [adv]; omega
  | succ k ih =>
    have := stepP_le s (adv s x k) ih.2.1
    simp only [adv]
    omega
theorem pos_le (s : ByteArray) (k : Nat) : (pos s k).1 ≤ s.size ∧ (pos s k).2 ≤ (pos s k).1 := by
  have := adv_le s (0, 0) (Nat.zero_le _) k
  have h := pos_adv s 0 k
  rw [Nat.zero_add] at h
  have e : adv s (0, 0) k = pos s k := h.symm
  rw [e] at this
  simp only at this
  omega
theorem pos_end (s : ByteArray) (k : Nat) (h : ¬ (pos s k).1 < s.size) : pos s (k + 1) = pos s k := by
  show stepP s (pos s k) = _
  unfold stepP
  rw [if_neg h]
theorem pos_step (s : ByteArray) (k : Nat) (h : (pos s k).1 < s.size) : pos s (k + 1) = ((pos s k).1 + dw s (pos s k).1, (pos s k).2 + 1) := by
  show stepP s (pos s k) = _
  unfold stepP
  rw [if_pos h]

/-- The runes of v from place i on: is r among them? -/
def has (v : ByteArray) (r : Nat) (i : Nat) : Bool := if _h : i < v.size then (dr v i == r || has v r (i + dw v i)) else false
termination_by v.size - i
decreasing_by have := dw_bounds v i _h; omega
theorem has_end (v : ByteArray) (r i : Nat) (h : ¬ i < v.size) : has v r i = false := by rw [has, dif_neg h]
theorem has_step (v : ByteArray) (r i : Nat) (h : i < v.size) : has v r i = (dr v i == r || has v r (i + dw v i)) := by rw [has, dif_pos h]
theorem has_hit (v : ByteArray) (r i : Nat) (h : i < v.size) (e : dr v i = r) : has v r i = true := by rw [has_step v r i h, e]; simp
theorem has_miss (v : ByteArray) (r i : Nat) (h : i < v.size) (e : dr v i ≠ r) : has v r i = has v r (i + dw v i) := by
  rw [has_step v r i h]
  have : (dr v i == r) = false := by simpa using e
  rw [this, Bool.false_or]

/-- Two texts with the same bytes around a place decode alike there. -/
theorem dec_congr (s t : ByteArray) (p q : Nat) (h0 : bt s p = bt t q) (h1 : (1 < s.size - p ∧ bt s (p + 1) / 64 = 2) ↔ (1 < t.size - q ∧ bt t (q + 1) / 64 = 2)) (k1 : bt s (p + 1) / 64 = 2 → bt t (q + 1) / 64 = 2 → bt s (p + 1) = bt t (q + 1))
    (h2 : (1 < s.size - p ∧ bt s (p + 1) / 64 = 2) → ((2 < s.size - p ∧ bt s (p + 2) / 64 = 2) ↔ (2 < t.size - q ∧ bt t (q + 2) / 64 = 2))) (k2 : (1 < s.size - p ∧ bt s (p + 1) / 64 = 2) → bt s (p + 2) / 64 = 2 → bt t (q + 2) / 64 = 2 → bt s (p + 2) = bt t (q + 2))
    (h3 : (1 < s.size - p ∧ bt s (p + 1) / 64 = 2) → (2 < s.size - p ∧ bt s (p + 2) / 64 = 2) → ((3 < s.size - p ∧ bt s (p + 3) / 64 = 2) ↔ (3 < t.size - q ∧ bt t (q + 3) / 64 = 2))) (k3 : (1 < s.size - p ∧ bt s (p + 1) / 64 = 2) → (2 < s.size - p ∧ bt s (p + 2) / 64 = 2) → bt s (p + 3) / 64 = 2 → bt t (q + 3) / 64 = 2 → bt s (p + 3) = bt t (q + 3)) :
    Utf8.decode s p = Utf8.decode t q := by
  rw [dec_eq, dec_eq, ← h0]
  by_cases c1 : 1 < s.size - p ∧ bt s (p + 1) / 64 = 2
  · have d1 := h1.1 c1
    have e1 := k1 c1.2 d1.2
    rw [← e1] at d1 ⊢
    by_cases c2 : 2 < s.size - p ∧ bt s (p + 2) / 64 = 2
    · have d2 := (h2 c1).1 c2
      have e2 := k2 c1 c2.2 d2.2
      rw [← e2] at d2 ⊢
      by_cases c3 : 3 < s.size - p ∧ bt s (p + 3) / 64 = 2
      · have d3 := (h3 c1 c2).1 c3
        have e3 := k3 c1 c2 c3.2 d3.2
        rw [← e3] at d3 ⊢
        unfold decodeN
        simp only [c1, c2, c3, d1, d2, d3, and_self, and_true]
      · have d3 : ¬ (3 < t.size - q ∧ bt t (q + 3) / 64 = 2) := fun h => c3 ((h3 c1 c2).2 h)
        unfold decodeN
        simp only [c1, c2, c3, d1, d2, d3, and_self, and_true, and_false, if_false]
    · have d2 : ¬ (2 < t.size - q ∧ bt t (q + 2) / 64 = 2) := fun h => c2 ((h2 c1).2 h)
      unfold decodeN
      simp only [c1, c2, d1, d2, and_self, and_true, and_false, false_and, if_false]
  · have d1 : ¬ (1 < t.size - q ∧ bt t (q + 1) / 64 = 2) := fun h => c1 (h1.2 h)
    unfold decodeN
    simp only [c1, d1, and_false, false_and, if_false]

end Go.Proofs.YtdlkdojgbiahgaaGreatFmt.Lx
