/-
  Plain facts on ASCII words: letters, digits, underscore and dollar; where a word ends. No program in sight.
-/
import Derived.Test.YtdlkdojgbiahgaaGreatFmtLxScan
import Derived.Shelf.Unicode.PredsPay
namespace Go.Proofs.YtdlkdojgbiahgaaGreatFmt.Lx
open Go Go.Lib

/-- ASCII letters, digits, '_' and '$'. -/
def an8 (c : Nat) : Bool := (decide (97 ≤ c) && decide (c ≤ 122)) || (decide (65 ≤ c) && decide (c ≤ 90)) || (decide (48 ≤ c) && decide (c ≤ 57)) || c == 95 || c == 36
/-- utils.IsAlphaNumeric. -/
def anU (r : Int) : Bool := r == 95 || r == 36 || isLetterU r || isDigitU r
theorem anU_tab : ((List.range 128).all fun c => anU (c : Int) == an8 c) = true := by decide +kernel
theorem anU_ascii {c : Nat} (h : c < 128) : anU (c : Int) = an8 c := by
  have := List.all_eq_true.1 anU_tab c (List.mem_range.2 h)
  exact eq_of_beq this
theorem anU_eof : anU (-1) = false := by decide +kernel

/-- The end of the ASCII word from p on. -/
def wrd (s : ByteArray) (p : Nat) : Nat := if _h : p < s.size then (if an8 (bt s p) then wrd s (p + 1) else p) else p
termination_by s.size - p
theorem wrd_yes {s : ByteArray} {p : Nat} (h : p < s.size) (k : an8 (bt s p) = true) : wrd s p = wrd s (p + 1) := by rw [wrd, dif_pos h, if_pos k]
theorem wrd_no {s : ByteArray} {p : Nat} (k : an8 (bt s p) = false) : wrd s p = p := by
  rw [wrd]
  by_cases h : p < s.size
  · rw [dif_pos h, k]; rfl
  · rw [dif_neg h]
theorem wrd_end {s : ByteArray} {p : Nat} (h : ¬ p < s.size) : wrd s p = p := by rw [wrd, dif_neg h]
theorem wrd_le (s : ByteArray) (d : Nat) : ∀ p, p ≤ s.size → s.size - p = d → p ≤ wrd s p ∧ wrd s p ≤ s.size := by
  induction d using Nat.strongRecOn with
  | _ d ih =>
    intro p hp hd
    by_cases h : p < s.size
    · cases k : an8 (bt s p) with
      | true => rw [wrd_yes h k]; have := ih _ (by omega) (p + 1) (by omega) rfl; omega
      | false => rw [wrd_no k]; omega
    · rw [wrd_end h]; omega
theorem an8_lt {c : Nat} (h : an8 c = true) : c < 128 := by
  unfold an8 at h
  simp only [Bool.or_eq_true, Bool.and_eq_true, decide_eq_true_eq, beq_iff_eq] at h
  omega
end Go.Proofs.YtdlkdojgbiahgaaGreatFmt.Lx
