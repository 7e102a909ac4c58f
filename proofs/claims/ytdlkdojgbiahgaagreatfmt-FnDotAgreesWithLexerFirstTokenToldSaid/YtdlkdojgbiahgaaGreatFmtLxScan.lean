/-
  Plain facts on the numerals: the front of a text up to the end of its numeral scans to that same end. No program in sight; every text.
-/
import Derived.Test.YtdlkdojgbiahgaaGreatFmtLxJoin
namespace Go.Proofs.YtdlkdojgbiahgaaGreatFmt.Lx
open Go Go.Lib

/-- Is the rune at p (if there is one) among those of v? -/
def acc (s v : ByteArray) (p : Nat) : Bool := decide (p < s.size) && has v (dr s p) 0
/-- A set of ASCII runes. -/
def Asc (v : ByteArray) : Prop := ∀ r, has v r 0 = true → r < 128

theorem acc_lt {s v : ByteArray} {p : Nat} (h : acc s v p = true) : p < s.size := by unfold acc at h; simp at h; exact h.1
theorem acc_has {s v : ByteArray} {p : Nat} (h : acc s v p = true) : has v (dr s p) 0 = true := by unfold acc at h; simp at h; exact h.2
theorem acc_w {s v : ByteArray} {p : Nat} (hv : Asc v) (h : acc s v p = true) : dw s p = 1 := (dr_low s p (hv _ (acc_has h))).2

/-- acceptRun: the end of the run from p on. -/
def run (s v : ByteArray) (p : Nat) : Nat := if _h : p < s.size then (if has v (dr s p) 0 then run s v (p + dw s p) else p) else p
termination_by s.size - p
decreasing_by have := dw_bounds s p _h; omega
/-- How many runes. -/
def runN (s v : ByteArray) (p : Nat) : Nat := if _h : p < s.size then (if has v (dr s p) 0 then runN s v (p + dw s p) + 1 else 0) else 0
termination_by s.size - p
decreasing_by have := dw_bounds s p _h; omega
theorem run_no {s v : ByteArray} {p : Nat} (h : acc s v p = false) : run s v p = p := by
  unfold acc at h
  rw [run]
  by_cases k : p < s.size
  · simp [k] at h; simp [k, h]
  · rw [dif_neg k]
theorem run_yes {s v : ByteArray} {p : Nat} (h : acc s v p = true) : run s v p = run s v (p + dw s p) := by
  rw [run, dif_pos (acc_lt h), if_pos (acc_has h)]
theorem runN_no {s v : ByteArray} {p : Nat} (h : acc s v p = false) : runN s v p = 0 := by
  unfold acc at h
  rw [runN]
  by_cases k : p < s.size
  · simp [k] at h; simp [k, h]
  · rw [dif_neg k]
theorem runN_yes {s v : ByteArray} {p : Nat} (h : acc s v p = true) : runN s v p = runN s v (p + dw s p) + 1 := by
  rw [runN, dif_pos (acc_lt h), if_pos (acc_has h)]
theorem run_stop (s v : ByteArray) (d : Nat) : ∀ p, s.size - p = d → acc s v (run s v p) = false := by
  induction d using Nat.strongRecOn with
  | _ d ih =>
    intro p hd
    cases h : acc s v p with
    | false => rw [run_no h]; exact h
    | true =>
      rw [run_yes h]
      have := dw_bounds s p (acc_lt h)
      have := acc_lt h
      exact ih _ (by omega) _ rfl
theorem run_bounds (s v : ByteArray) (d : Nat) : ∀ p, p ≤ s.size → s.size - p = d → p ≤ run s v p ∧ run s v p ≤ s.size ∧ runN s v p ≤ run s v p - p := by
  induction d using Nat.strongRecOn with
  | _ d ih =>
    intro p hp hd
    cases h : acc s v p with
    | false => rw [run_no h, runN_no h]; omega
    | true =>
      rw [run_yes h, runN_yes h]
      have := dw_bounds s p (acc_lt h)
      have := acc_lt h
      have := ih _ (by omega) (p + dw s p) (by omega) rfl
      omega
/-- Over a set of ASCII runes a rune is a byte. -/
theorem runN_asc (s v : ByteArray) (hv : Asc v) (d : Nat) : ∀ p, s.size - p = d → runN s v p = run s v p - p := by
  induction d using Nat.strongRecOn with
  | _ d ih =>
    intro p hd
    cases h : acc s v p with
    | false => rw [run_no h, runN_no h]; omega
    | true =>
      have hw := acc_w hv h
      have hl := acc_lt h
      have hb := run_bounds s v _ (p + 1) (by omega) rfl
      rw [run_yes h, runN_yes h, hw, ih _ (by omega) (p + 1) rfl]
      omega

/-! ### A front of the text -/
section
variable (s : ByteArray) (e : Nat) (he : e ≤ s.size)
include he
theorem acc_take (v : ByteArray) (hv : Asc v) (p : Nat) : acc (s.extract 0 e) v p = (decide (p < e) && acc s v p) := by
  unfold acc
  rw [size_take s e he]
  by_cases h : p < e
  · have hs : p < s.size := by omega
    simp only [h, hs, decide_true, Bool.true_and]
    have hb := bt_take s e p h he
    rcases Nat.lt_or_ge (bt s p) 128 with k | k
    · have h1 := (dec_ascii s p k).1
      have h2 := (dec_ascii (s.extract 0 e) p (by rw [hb]; exact k)).1
      rw [h1, h2, hb]
    · have h1 := dr_high s p k
      have h2 := dr_high (s.extract 0 e) p (by rw [hb]; exact k)
      have f1 : has v (dr s p) 0 = false := by
        cases x : has v (dr s p) 0 with
        | false => rfl
        | true => have := hv _ x; omega
      have f2 : has v (dr (s.extract 0 e) p) 0 = false := by
        cases x : has v (dr (s.extract 0 e) p) 0 with
        | false => rfl
        | true => have := hv _ x; omega
      rw [f1, f2]
  · simp [h]
theorem acc_take_no (v : ByteArray) (hv : Asc v) (p : Nat) (h : acc s v p = false) : acc (s.extract 0 e) v p = false := by
  rw [acc_take s e he v hv p, h, Bool.and_false]
theorem acc_take_yes (v : ByteArray) (hv : Asc v) (p : Nat) (hp : p < e) (h : acc s v p = true) : acc (s.extract 0 e) v p = true := by
  rw [acc_take s e he v hv p, h, Bool.and_true]; simp [hp]
theorem run_take (v : ByteArray) (hv : Asc v) (d : Nat) : ∀ p, s.size - p = d → run s v p ≤ e → run (s.extract 0 e) v p = run s v p := by
  induction d using Nat.strongRecOn with
  | _ d ih =>
    intro p hd hr
    cases h : acc s v p with
    | false =>
      rw [run_no h] at hr ⊢
      rw [run_no (acc_take_no s e he v hv p h)]
    | true =>
      have hw := acc_w hv h
      have hl := acc_lt h
      have hb := run_bounds s v _ (p + 1) (by omega) rfl
      rw [run_yes h, hw] at hr ⊢
      have ht := acc_take_yes s e he v hv p (by omega) h
      rw [run_yes ht, acc_w hv ht]
      exact ih _ (by omega) (p + 1) rfl hr
theorem run_take' (v : ByteArray) (hv : Asc v) (p : Nat) (hr : run s v p ≤ e) : run (s.extract 0 e) v p = run s v p := run_take s e he v hv _ p rfl hr
end

/-! ### scanNumber -/
def z0 : ByteArray := ⟨#[48]⟩
def xX : ByteArray := ⟨#[120, 88]⟩
def oO : ByteArray := ⟨#[111, 79]⟩
def bB : ByteArray := ⟨#[98, 66]⟩
def dt : ByteArray := ⟨#[46]⟩
def eE : ByteArray := ⟨#[101, 69]⟩
def pm : ByteArray := ⟨#[43, 45]⟩
def D10 : ByteArray := ⟨#[48, 49, 50, 51, 52, 53, 54, 55, 56, 57, 95]⟩
def D16 : ByteArray := ⟨#[48, 49, 50, 51, 52, 53, 54, 55, 56, 57, 97, 98, 99, 100, 101, 102, 65, 66, 67, 68, 69, 70, 95]⟩
def D8 : ByteArray := ⟨#[48, 49, 50, 51, 52, 53, 54, 55, 95]⟩
def D2 : ByteArray := ⟨#[48, 49, 95]⟩

/-- All bytes ASCII. -/
def ascB (v : ByteArray) : Bool := v.data.toList.all fun c => decide (c.toNat < 128)
theorem asc_of_bytes {v : ByteArray} (h : ∀ p, bt v p < 128) : Asc v := by
  have g : ∀ (d : Nat) (r i : Nat), v.size - i = d → has v r i = true → r < 128 := by
    intro d
    induction d using Nat.strongRecOn with
    | _ d ih =>
      intro r i hd hh
      by_cases k : i < v.size
      · rw [has_step v r i k] at hh
        have hw := dw_bounds v i k
        have ha := (dec_ascii v i (h i)).1
        rcases Bool.or_eq_true_iff.1 hh with x | x
        · have : dr v i = r := by simpa using x
          have := h i
          omega
        · exact ih _ (by omega) r _ rfl x
      · rw [has_end v r i k] at hh; cases hh
  exact fun r hr => g _ r 0 rfl hr
theorem asc_of_B {v : ByteArray} (h : ascB v = true) : Asc v := by
  refine asc_of_bytes fun p => ?_
  rcases Nat.lt_or_ge p v.size with k | k
  · rw [bt_get v p k]
    have := List.all_eq_true.1 h (v.data[p]'k) (Array.mem_toList_iff.2 (Array.getElem_mem k))
    exact of_decide_eq_true this
  · rw [bt_out v p k]; decide
theorem asc_z0 : Asc z0 := asc_of_B rfl
theorem asc_xX : Asc xX := asc_of_B rfl
theorem asc_oO : Asc oO := asc_of_B rfl
theorem asc_bB : Asc bB := asc_of_B rfl
theorem asc_dt : Asc dt := asc_of_B rfl
theorem asc_eE : Asc eE := asc_of_B rfl
theorem asc_pm : Asc pm := asc_of_B rfl
theorem asc_D10 : Asc D10 := asc_of_B rfl
theorem asc_D16 : Asc D16 := asc_of_B rfl
theorem asc_D8 : Asc D8 := asc_of_B rfl
theorem asc_D2 : Asc D2 := asc_of_B rfl

/-- The rune that stands next; -1 at the end. -/
def pk (s : ByteArray) (p : Nat) : Int := if p < s.size then (dr s p : Int) else -1

def preD (s : ByteArray) : ByteArray := if acc s z0 0 then (if acc s xX 1 then D16 else if acc s oO 1 then D8 else if acc s bB 1 then D2 else D10) else D10
def preP (s : ByteArray) : Nat := if acc s z0 0 then (if acc s xX 1 then 2 else if acc s oO 1 then 2 else if acc s bB 1 then 2 else 1) else 0
def sgnP (s : ByteArray) (p : Nat) : Nat := if acc s pm p then p + 1 else p
def expP (s D : ByteArray) (p : Nat) : Nat := if acc s eE p then run s D (sgnP s (p + 1)) else p
def intP (s : ByteArray) : Nat := run s (preD s) (preP s)
/-- Where the numeral ends, where it does not stop before '..'. -/
def numP (s : ByteArray) : Nat := if acc s dt (intP s) then expP s (preD s) (run s (preD s) (intP s + 1)) else expP s (preD s) (intP s)
/-- It stops before '..'. -/
def dots (s : ByteArray) : Bool := acc s dt (intP s) && decide (pk s (intP s + 1) = 46)

theorem asc_preD (s : ByteArray) : Asc (preD s) := by
  unfold preD
  repeat' split
  all_goals first | exact asc_D16 | exact asc_D8 | exact asc_D2 | exact asc_D10
theorem preP_le (s : ByteArray) : preP s ≤ s.size := by
  unfold preP
  repeat' split
  all_goals first | (have := acc_lt ‹acc s xX 1 = true›; omega) | (have := acc_lt ‹acc s oO 1 = true›; omega) | (have := acc_lt ‹acc s bB 1 = true›; omega) | (have := acc_lt ‹acc s z0 0 = true›; omega) | omega
theorem sgnP_le (s : ByteArray) (p : Nat) (h : p ≤ s.size) : p ≤ sgnP s p ∧ sgnP s p ≤ s.size := by
  unfold sgnP
  split
  · have := acc_lt ‹acc s pm p = true›; omega
  · omega
theorem run_le' (s v : ByteArray) (p : Nat) (h : p ≤ s.size) : p ≤ run s v p ∧ run s v p ≤ s.size := by
  have := run_bounds s v _ p h rfl; omega
theorem expP_le (s D : ByteArray) (p : Nat) (h : p ≤ s.size) : p ≤ expP s D p ∧ expP s D p ≤ s.size := by
  unfold expP
  split
  · have h1 := acc_lt ‹acc s eE p = true›
    have h2 := sgnP_le s (p + 1) (by omega)
    have h3 := run_le' s D _ h2.2
    omega
  · omega
theorem intP_le (s : ByteArray) : preP s ≤ intP s ∧ intP s ≤ s.size := run_le' s _ _ (preP_le s)
theorem numP_le (s : ByteArray) : intP s ≤ numP s ∧ numP s ≤ s.size := by
  have hi := intP_le s
  unfold numP
  split
  · have h1 := acc_lt ‹acc s dt (intP s) = true›
    have h2 := run_le' s (preD s) (intP s + 1) (by omega)
    have h3 := expP_le s (preD s) _ h2.2
    omega
  · have h3 := expP_le s (preD s) (intP s) hi.2
    omega

section
variable (s : ByteArray) (e : Nat) (he : e ≤ s.size)
include he
theorem pre_take (h : preP s ≤ e) : preD (s.extract 0 e) = preD s ∧ preP (s.extract 0 e) = preP s := by
  unfold preD preP at *
  cases h0 : acc s z0 0 with
  | false =>
    simp only [h0, Bool.false_eq_true, if_false] at h ⊢
    rw [acc_take_no s e he z0 asc_z0 0 h0]
    simp
  | true =>
    simp only [h0, if_true] at h ⊢
    have h1 : 1 ≤ e := by
      cases x : acc s xX 1 <;> cases y : acc s oO 1 <;> cases z : acc s bB 1 <;> simp only [x, y, z, if_true, if_false, Bool.false_eq_true] at h <;> omega
    rw [acc_take_yes s e he z0 asc_z0 0 (by omega) h0]
    simp only [if_true]
    cases x : acc s xX 1 with
    | true =>
      simp only [x, if_true] at h ⊢
      rw [acc_take_yes s e he xX asc_xX 1 (by omega) x]
      simp
    | false =>
      simp only [x, Bool.false_eq_true, if_false] at h ⊢
      rw [acc_take_no s e he xX asc_xX 1 x]
      simp only [Bool.false_eq_true, if_false]
      cases y : acc s oO 1 with
      | true =>
        simp only [y, if_true] at h ⊢
        rw [acc_take_yes s e he oO asc_oO 1 (by omega) y]
        simp
      | false =>
        simp only [y, Bool.false_eq_true, if_false] at h ⊢
        rw [acc_take_no s e he oO asc_oO 1 y]
        simp only [Bool.false_eq_true, if_false]
        cases z : acc s bB 1 with
        | true =>
          simp only [z, if_true] at h ⊢
          rw [acc_take_yes s e he bB asc_bB 1 (by omega) z]
          simp
        | false =>
          rw [acc_take_no s e he bB asc_bB 1 z]
          simp
theorem int_take (h : intP s ≤ e) : intP (s.extract 0 e) = intP s := by
  have hp := (intP_le s).1
  have := pre_take s e he (by omega)
  unfold intP
  rw [this.1, this.2]
  exact run_take' s e he _ (asc_preD s) _ h
theorem sgn_take (p : Nat) (h : sgnP s p ≤ e) : sgnP (s.extract 0 e) p = sgnP s p := by
  unfold sgnP at *
  cases x : acc s pm p with
  | true =>
    simp only [x, if_true] at h ⊢
    rw [acc_take_yes s e he pm asc_pm p (by omega) x]; simp
  | false => rw [acc_take_no s e he pm asc_pm p x]
theorem exp_take (D : ByteArray) (hD : Asc D) (p : Nat) (hp : p ≤ e) (h : expP s D p ≤ e) : expP (s.extract 0 e) D p = expP s D p := by
  unfold expP at *
  cases x : acc s eE p with
  | true =>
    simp only [x, if_true] at h ⊢
    have h1 := acc_lt x
    have h2 := sgnP_le s (p + 1) (by omega)
    have h3 := run_le' s D _ h2.2
    rw [acc_take_yes s e he eE asc_eE p (by omega) x]
    simp only [if_true]
    rw [sgn_take s e he (p + 1) (by omega)]
    exact run_take' s e he D hD _ h
  | false => rw [acc_take_no s e he eE asc_eE p x]; simp
end

/-- THE NUMERAL SCANNED AGAIN BY ITSELF: not before '..'. -/
theorem num_take (s : ByteArray) : numP (s.extract 0 (numP s)) = numP s ∧ dots (s.extract 0 (numP s)) = false ∨ dots s = true := by
  have hn := numP_le s
  have hi := intP_le s
  have he := hn.2
  cases hd : dots s with
  | true => exact Or.inr rfl
  | false =>
    refine Or.inl ?_
    have h1 := int_take s (numP s) he hn.1
    have h2 := (pre_take s (numP s) he (by omega)).1
    cases x : acc s dt (intP s) with
    | false =>
      have h3 := acc_take_no s (numP s) he dt asc_dt (intP s) x
      have hN : numP s = expP s (preD s) (intP s) := by unfold numP; simp [x]
      constructor
      · rw [numP, h1, h2, h3]
        simp only [Bool.false_eq_true, if_false]
        rw [exp_take s (numP s) he _ (asc_preD s) _ hn.1 (by omega), ← hN]
      · unfold dots; rw [h1, h3]; rfl
    | true =>
      have hl := acc_lt x
      have hr := run_le' s (preD s) (intP s + 1) (by omega)
      have hN : numP s = expP s (preD s) (run s (preD s) (intP s + 1)) := by unfold numP; simp [x]
      have hx := expP_le s (preD s) _ hr.2
      have h3 := acc_take_yes s (numP s) he dt asc_dt (intP s) (by omega) x
      have h4 := run_take' s (numP s) he _ (asc_preD s) (intP s + 1) (by omega)
      constructor
      · rw [numP, h1, h2, h3]
        simp only [if_true]
        rw [h4, exp_take s (numP s) he _ (asc_preD s) _ (by omega) (by omega), ← hN]
      · unfold dots
        rw [h1, h3, Bool.true_and]
        unfold dots at hd
        rw [x, Bool.true_and] at hd
        have hd' : ¬ pk s (intP s + 1) = 46 := by simpa using hd
        have : ¬ pk (s.extract 0 (numP s)) (intP s + 1) = 46 := by
          unfold pk at *
          rw [size_take s _ he]
          by_cases k : intP s + 1 < numP s
          · rw [if_pos k]
            rw [if_pos (by omega)] at hd'
            have hb := bt_take s (numP s) (intP s + 1) k he
            rcases Nat.lt_or_ge (bt s (intP s + 1)) 128 with q | q
            · have g1 := (dec_ascii s _ q).1
              have g2 := (dec_ascii (s.extract 0 (numP s)) (intP s + 1) (by rw [hb]; exact q)).1
              rw [g2, hb, ← g1]; exact hd'
            · have g2 := dr_high (s.extract 0 (numP s)) (intP s + 1) (by rw [hb]; exact q)
              omega
          · rw [if_neg k]; omega
        simpa using this
/-- Before '..': the part before it is a numeral by itself. -/
theorem int_again (s : ByteArray) : intP (s.extract 0 (intP s)) = intP s ∧ numP (s.extract 0 (intP s)) = intP s ∧ dots (s.extract 0 (intP s)) = false := by
  have hi := intP_le s
  have h1 := int_take s (intP s) hi.2 (Nat.le_refl _)
  have hz := size_take s (intP s) hi.2
  have no : ∀ v, acc (s.extract 0 (intP s)) v (intP s) = false := fun v => by unfold acc; rw [hz]; simp
  refine ⟨h1, ?_, ?_⟩
  · unfold numP
    rw [h1, no dt]
    simp only [Bool.false_eq_true, if_false]
    unfold expP
    rw [no eE]
    simp
  · unfold dots; rw [h1, no dt]; rfl

end Go.Proofs.YtdlkdojgbiahgaaGreatFmt.Lx
