/-
  Contracts of the law's own decoder (plain: what decodeN gives, class by class): it gives what the model's decoder gives. Condition: none on the bytes.
-/
import Derived.Test.YtdlkdojgbiahgaaFmtLxBase
namespace Go.Proofs.YtdlkdojgbiahgaaFmt.Lx
open Go.RowKit Go.Lib

theorem dN_one (n b0 b1 b2 b3 : Nat) (h : b0 < 128) : decodeN n b0 b1 b2 b3 = (b0, 1) := by unfold decodeN; rw [if_pos h]
theorem dN_low (n b0 b1 b2 b3 : Nat) (h : ¬ b0 < 128) (k : b0 < 194) : decodeN n b0 b1 b2 b3 = (65533, 1) := by
  unfold decodeN
  repeat' split
  all_goals first | rfl | (exfalso; omega)
theorem dN_two (n b0 b1 b2 b3 : Nat) (h : ¬ b0 < 194) (k : b0 < 224) (hn : 1 < n) (hc : b1 / 64 = 2) : decodeN n b0 b1 b2 b3 = (b0 % 32 * 64 + b1 % 64, 2) := by
  unfold decodeN
  repeat' split
  all_goals first | rfl | (exfalso; omega)
theorem dN_two_no (n b0 b1 b2 b3 : Nat) (h : ¬ b0 < 194) (k : b0 < 224) (hc : ¬ (1 < n ∧ b1 / 64 = 2)) : decodeN n b0 b1 b2 b3 = (65533, 1) := by
  unfold decodeN
  repeat' split
  all_goals first | rfl | (exfalso; omega)
theorem dN_high (n b0 b1 b2 b3 : Nat) (h : ¬ b0 < 245) (hb : b0 < 256) : decodeN n b0 b1 b2 b3 = (65533, 1) := by
  unfold decodeN
  repeat' split
  all_goals first | rfl | (exfalso; omega)
/-- The second byte of three: its bounds. -/
def lo3 (b0 : Nat) : Nat := if b0 = 224 then 160 else 128
def hi3 (b0 : Nat) : Nat := if b0 = 237 then 159 else 191
def lo4 (b0 : Nat) : Nat := if b0 = 240 then 144 else 128
def hi4 (b0 : Nat) : Nat := if b0 = 244 then 143 else 191
theorem dN_three (n b0 b1 b2 b3 : Nat) (h : ¬ b0 < 224) (k : b0 < 240) (hn : 2 < n) (h1 : lo3 b0 ≤ b1) (h2 : b1 ≤ hi3 b0) (hc : b2 / 64 = 2) : decodeN n b0 b1 b2 b3 = (b0 % 16 * 4096 + b1 % 64 * 64 + b2 % 64, 3) := by
  have g : 128 ≤ b1 ∧ b1 ≤ 191 ∧ (b0 = 224 → 160 ≤ b1) ∧ (b0 = 237 → b1 ≤ 159) := by
    unfold lo3 at h1
    unfold hi3 at h2
    by_cases e : b0 = 224
    · rw [if_pos e] at h1; rw [if_neg (by omega)] at h2; omega
    · rw [if_neg e] at h1
      by_cases e2 : b0 = 237
      · rw [if_pos e2] at h2; omega
      · rw [if_neg e2] at h2; omega
  unfold decodeN
  rw [if_neg (by omega), if_neg (by omega), if_pos ⟨by omega, ⟨by omega, by omega⟩, ⟨by omega, hc⟩⟩, if_pos ⟨by omega, by omega⟩]
theorem dN_three_no (n b0 b1 b2 b3 : Nat) (h : ¬ b0 < 224) (k : b0 < 240) (hb : b1 < 256) (hc : ¬ (2 < n ∧ lo3 b0 ≤ b1 ∧ b1 ≤ hi3 b0 ∧ b2 / 64 = 2)) : decodeN n b0 b1 b2 b3 = (65533, 1) := by
  unfold lo3 hi3 at hc
  unfold decodeN
  repeat' split
  all_goals first | rfl | (exfalso; (repeat' split at hc) <;> omega)
theorem dN_four (n b0 b1 b2 b3 : Nat) (h : ¬ b0 < 240) (k : b0 < 245) (hn : 3 < n) (h1 : lo4 b0 ≤ b1) (h2 : b1 ≤ hi4 b0) (hc : b2 / 64 = 2) (hd : b3 / 64 = 2) : decodeN n b0 b1 b2 b3 = (b0 % 8 * 262144 + b1 % 64 * 4096 + b2 % 64 * 64 + b3 % 64, 4) := by
  have g : 128 ≤ b1 ∧ b1 ≤ 191 ∧ (b0 = 240 → 144 ≤ b1) ∧ (b0 = 244 → b1 ≤ 143) := by
    unfold lo4 at h1
    unfold hi4 at h2
    by_cases e : b0 = 240
    · rw [if_pos e] at h1; rw [if_neg (by omega)] at h2; omega
    · rw [if_neg e] at h1
      by_cases e2 : b0 = 244
      · rw [if_pos e2] at h2; omega
      · rw [if_neg e2] at h2; omega
  unfold decodeN
  rw [if_neg (by omega), if_neg (by omega), if_neg (by omega), if_pos ⟨by omega, ⟨by omega, by omega⟩, ⟨by omega, hc⟩, ⟨by omega, hd⟩⟩, if_pos ⟨by omega, by omega⟩]
theorem dN_four_no (n b0 b1 b2 b3 : Nat) (h : ¬ b0 < 240) (k : b0 < 245) (hb : b1 < 256) (hc : ¬ (3 < n ∧ lo4 b0 ≤ b1 ∧ b1 ≤ hi4 b0 ∧ b2 / 64 = 2 ∧ b3 / 64 = 2)) : decodeN n b0 b1 b2 b3 = (65533, 1) := by
  unfold lo4 hi4 at hc
  unfold decodeN
  repeat' split
  all_goals first | rfl | (exfalso; (repeat' split at hc) <;> omega)


end Go.Proofs.YtdlkdojgbiahgaaFmt.Lx
