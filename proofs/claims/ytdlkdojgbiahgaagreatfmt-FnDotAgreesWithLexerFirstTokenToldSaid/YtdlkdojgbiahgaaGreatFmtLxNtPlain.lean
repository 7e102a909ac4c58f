/-
  The source "not", k spaces, an ASCII word: its bytes and its words; the tokens that the lexer hands back over it. Conditions: k is at least 1, the word has at most 65536 bytes, all of them letters, digits, underscores or dollar signs, the first no digit.
-/
import Derived.Test.YtdlkdojgbiahgaaGreatFmtLxLex
namespace Go.Proofs.YtdlkdojgbiahgaaGreatFmt.Lx
open Go.RowKit Go.Lib

theorem has_sp (r : Nat) : has sp r 0 = (r == 32) := by
  have h0 : bt sp 0 = 32 := rfl
  have hd := dec_ascii sp 0 (by rw [h0]; decide)
  rw [has_step sp r 0 (by decide), hd.1, hd.2, h0, has_end sp r _ (by decide), Bool.or_false]
  rw [Bool.eq_iff_iff]; simp only [beq_iff_eq]; omega
theorem acc_sp {s : ByteArray} {p : Nat} (hp : p < s.size) : acc s sp p = (bt s p == 32) := by
  unfold acc
  rw [decide_eq_true hp, Bool.true_and, has_sp, Bool.eq_iff_iff]
  simp only [beq_iff_eq]
  constructor
  · intro k; have := (dr_low s p (by omega)).1; omega
  · intro k; have := (dec_ascii s p (by omega)).1; omega
theorem run_sp_yes {s : ByteArray} {p : Nat} (hp : p < s.size) (h : bt s p = 32) : run s sp p = run s sp (p + 1) := by
  have e : acc s sp p = true := by rw [acc_sp hp, h]; rfl
  rw [run_yes e, acc_w asc_sp e]
theorem run_sp_no {s : ByteArray} {p : Nat} (hp : p < s.size) (h : ¬ bt s p = 32) : run s sp p = p := by
  have e : acc s sp p = false := by rw [acc_sp hp, beq_eq_false_iff_ne]; exact h
  exact run_no e
theorem run_end {s v : ByteArray} {p : Nat} (h : ¬ p < s.size) : run s v p = p := run_no (by unfold acc; rw [decide_eq_false h, Bool.false_and])
theorem run_spaces (s : ByteArray) : ∀ (m p : Nat), p + m ≤ s.size → (∀ i, p ≤ i → i < p + m → bt s i = 32) → (p + m < s.size → ¬ bt s (p + m) = 32) → run s sp p = p + m := by
  intro m
  induction m with
  | zero =>
    intro p hp _ he
    by_cases h : p < s.size
    · exact run_sp_no h (he h)
    · exact run_end h
  | succ m ih =>
    intro p hp hb he
    rw [run_sp_yes (by omega) (hb p (Nat.le_refl _) (by omega)), ih (p + 1) (by omega) (fun i h1 h2 => hb i (by omega) (by omega)) (fun h => by have := he (by omega); rwa [show p + 1 + m = p + (m + 1) by omega])]
    omega
theorem wrd_all (s : ByteArray) : ∀ (d p : Nat), s.size - p = d → p ≤ s.size → (∀ i, p ≤ i → i < s.size → an8 (bt s i) = true) → wrd s p = s.size := by
  intro d
  induction d with
  | zero => intro p hd hp _; rw [wrd_end (by omega)]; omega
  | succ d ih =>
    intro p hd hp ha
    rw [wrd_yes (by omega) (ha p (Nat.le_refl _) (by omega))]
    exact ih (p + 1) (by omega) (by omega) (fun i h1 h2 => ha i (by omega) h2)

/-- The source's bytes. -/
def srcL (k : Nat) (W : ByteArray) : List UInt8 := [110, 111, 116] ++ (List.replicate k 32 ++ W.data.toList)
def srcB (k : Nat) (W : ByteArray) : ByteArray := ⟨(srcL k W).toArray⟩
theorem srcL_length (k : Nat) (W : ByteArray) : (srcL k W).length = 3 + k + W.size := by
  unfold srcL
  rw [List.length_append, List.length_append, List.length_replicate]
  show 3 + (k + W.size) = _
  omega
theorem src_size (k : Nat) (W : ByteArray) : (srcB k W).size = 3 + k + W.size := by
  rw [← srcL_length]
  show (srcL k W).toArray.size = _
  rw [List.size_toArray]
theorem src_bt (k : Nat) (W : ByteArray) (i : Nat) : bt (srcB k W) i = ((srcL k W)[i]?.getD 0).toNat := by
  rw [bt_getD]
  show ((srcL k W).toArray[i]?.getD 0).toNat = _
  rw [List.getElem?_toArray]
theorem src_bt_sp (k : Nat) (W : ByteArray) (i : Nat) (h1 : 3 ≤ i) (h2 : i < 3 + k) : bt (srcB k W) i = 32 := by
  rw [src_bt]
  unfold srcL
  rw [List.getElem?_append_right (by simpa using h1), List.getElem?_append_left (by rw [List.length_replicate]; simp; omega), List.getElem?_replicate, if_pos (by simp; omega)]
  rfl
theorem src_bt_w (k : Nat) (W : ByteArray) (i : Nat) : bt (srcB k W) (3 + k + i) = bt W i := by
  rw [src_bt, bt_getD]
  unfold srcL
  rw [List.getElem?_append_right (by simp; omega), List.getElem?_append_right (by rw [List.length_replicate]; simp; omega), List.length_replicate]
  rw [show 3 + k + i - ([110, 111, 116] : List UInt8).length - k = i by simp; omega, Array.getElem?_toList]
theorem src_not (k : Nat) (W : ByteArray) : (srcB k W).extract 0 3 = wNot := by
  apply ByteArray.ext
  rw [ByteArray.data_extract]
  apply Array.ext'
  rw [Array.toList_extract, List.extract_eq_take_drop]
  show List.take 3 (srcL k W) = [110, 111, 116]
  unfold srcL
  rfl
theorem src_word (k : Nat) (W : ByteArray) : (srcB k W).extract (3 + k) (3 + k + W.size) = W := by
  apply ByteArray.ext
  rw [ByteArray.data_extract]
  apply Array.ext'
  rw [Array.toList_extract, List.extract_eq_take_drop]
  show List.take (3 + k + W.size - (3 + k)) (List.drop (3 + k) (srcL k W)) = W.data.toList
  have e : srcL k W = ([110, 111, 116] ++ List.replicate k 32) ++ W.data.toList := by unfold srcL; rw [List.append_assoc]
  have hl : 3 + k = ([110, 111, 116] ++ List.replicate k 32 : List UInt8).length := by simp; omega
  rw [e, Nat.add_sub_cancel_left, hl, List.drop_left]
  exact List.take_of_length_le (Nat.le_of_eq rfl)

/-- The second word's kind. -/
def kind2 (W : ByteArray) : ByteArray := if isNeg W = true ∨ W = wNot then kOp else wkind W false
/-- What Lex hands back. -/
def toksOf (k : Nat) (W : ByteArray) : List Tk :=
  Tk.mk 0 3 kOp wNot :: (if W.size = 0 then [] else [Tk.mk (3 + k) (3 + k + W.size) (kind2 W) W]) ++ [Tk.mk (3 + k + W.size - 1) (3 + k + W.size) eofT ⟨#[]⟩]

theorem serve_eof (B : Nat) (s : ByteArray) (tok : Value) (w0 : Base) (w : World) (L R b : Nat) (l : List Tk) (h : LQ B (LS.rest s tok rootV s.size false false) w0 w L R b 0 l) (hs : s.size ≤ 1073741824) (hb : b + 2 < 10) :
    Serves B L R [Tk.mk (s.size - 1) s.size eofT ⟨#[]⟩] w0 w := by
  refine ⟨_, b, 0, l, h, fun w0' W hq => ?_⟩
  refine (first_eof B s tok false w0' W L R b l hq hs hb).mono ?_
  rintro e w' ⟨he, l', hq'⟩
  exact ⟨he, _, _, _, hq', rfl, rfl⟩

theorem serve_all (k : Nat) (W : ByteArray) (hk : 1 ≤ k) (hk2 : k ≤ 65536) (hW : W.size ≤ 65536) (ha : ∀ i, i < W.size → an8 (bt W i) = true) (hd : ¬ (48 ≤ bt W 0 ∧ bt W 0 ≤ 57))
    (w0 : Base) (w : World) (B L R : Nat) (h : LQ B (LS.rest (srcB k W) (.pointer (some ⟨R, 0, none⟩)) rootV 0 false false) w0 w L R 0 0 (List.replicate 10 Tk.none)) :
    Serves B L R (toksOf k W) w0 w := by
  have hsz := src_size k W
  have hw := src_bt_w k W
  have hsp := src_bt_sp k W
  have hx := src_word k W
  have hn := src_not k W
  unfold toksOf
  generalize srcB k W = s at *
  have hs : s.size ≤ 1073741824 := by omega
  obtain ⟨P, hP⟩ : ∃ P, 3 + k = P := ⟨_, rfl⟩
  rw [hP] at hx hsz hw hsp ⊢
  obtain ⟨n, hnn⟩ : ∃ n, P + W.size = n := ⟨_, rfl⟩
  rw [hnn] at hx hsz ⊢
  have haP : ∀ i, P ≤ i → i < s.size → an8 (bt s i) = true := fun i h1 h2 => by
    rw [show i = P + (i - P) by omega, hw]
    exact ha _ (by omega)
  have b0 : bt s 0 = 110 := by rw [← bt_take s 3 0 (by omega) (by omega), hn]; rfl
  have b1 : bt s 1 = 111 := by rw [← bt_take s 3 1 (by omega) (by omega), hn]; rfl
  have b2 : bt s 2 = 116 := by rw [← bt_take s 3 2 (by omega) (by omega), hn]; rfl
  have b3 : bt s 3 = 32 := hsp 3 (by omega) (by omega)
  have e3 : wrd s 0 = 3 := by
    rw [wrd_yes (by omega) (by rw [b0]; decide), wrd_yes (by omega) (by rw [b1]; decide), wrd_yes (by omega) (by rw [b2]; decide)]
    exact wrd_no (by rw [b3]; decide)
  have eP : run s sp 3 = P := by
    have := run_spaces s k 3 (by omega) (fun i h1 h2 => hsp i h1 (by omega)) (fun h => by
      rw [hP] at h ⊢
      have := haP P (Nat.le_refl _) h
      intro e
      rw [e] at this
      exact absurd this (by decide))
    rw [this, hP]
  have eQ : wrd s P = n := by rw [wrd_all s _ P rfl (by omega) haP, hsz]
  have ho : Opens s 0 := ⟨by omega, by rw [b0]; decide, by omega, fun h => by omega⟩
  have f1 := fun (w0' : Base) (W' : World) hq => first_not B s (.pointer (some ⟨R, 0, none⟩)) false w0' W' L R 0 (List.replicate 10 Tk.none) 0 3 P n hq ho hs (by omega) e3 (by intro _; omega) hn eP eQ (by intro h; omega)
  rw [hx] at f1
  refine ⟨_, 0, 0, _, h, fun w0' W' hq => (f1 w0' W' hq).mono ?_⟩
  rintro e w1 ⟨he, l', hc⟩
  refine ⟨he, ?_⟩
  clear f1 h
  rcases hc with ⟨hneg, hq, hl⟩ | ⟨hneg, hq⟩
  · have hW0 : ¬ W.size = 0 := by
      intro h0
      have : W = ⟨#[]⟩ := by
        cases W with
        | mk d =>
          have : d = #[] := Array.eq_empty_of_size_eq_zero h0
          rw [this]
      rw [this] at hneg
      exact absurd hneg (by decide)
    rw [if_neg hW0]
    have hk2 : kind2 W = kOp := by unfold kind2; rw [if_pos (Or.inl hneg)]
    rw [hk2]
    refine ⟨_, 1, 1, _, hq, fun w0'' W'' hq2 => ?_⟩
    refine (next_held B _ w0'' W'' L R 1 0 l' _ hq2 (by omega) (by omega) hl rfl (Or.inr ⟨_, rfl⟩)).mono ?_
    rintro e w2 ⟨he2, hq3⟩
    refine ⟨he2, ?_⟩
    rw [← hsz] at hq3 ⊢
    exact serve_eof B s _ _ _ L R 2 _ hq3 hs (by omega)
  · by_cases hW0 : W.size = 0
    · rw [if_pos hW0]
      have hPn : P = s.size := by omega
      rw [hPn] at hq
      rw [← hsz]
      exact serve_eof B s _ _ _ L R 1 _ hq hs (by omega)
    · rw [if_neg hW0]
      have hPlt : P < s.size := by omega
      have hb0 : bt s P = bt W 0 := hw 0
      have haPP := haP P (Nat.le_refl _) hPlt
      have hoP : Opens s P := by
        refine ⟨hPlt, haPP, ?_, ?_⟩
        · rw [← hb0] at hd
          have h8 := haPP
          unfold an8 at h8
          simp only [Bool.or_eq_true, Bool.and_eq_true, decide_eq_true_eq, beq_iff_eq] at h8
          omega
        · intro _
          unfold pk
          by_cases h1 : P + 1 < s.size
          · rw [if_pos h1]
            have h8 := haP (P + 1) (by omega) h1
            have hd1 := (dec_ascii s (P + 1) (an8_lt h8)).1
            rw [hd1]
            generalize bt s (P + 1) = c at h8
            constructor <;> (rw [beq_eq_false_iff_ne]; intro e; have : c = 39 ∨ c = 34 := by omega
                             rcases this with rfl | rfl <;> exact absurd h8 (by decide))
          · rw [if_neg h1]
            exact ⟨rfl, rfl⟩
      refine ⟨_, 1, 0, _, hq, fun w0'' W'' hq2 => ?_⟩
      by_cases hN : W = wNot
      · have hk2 : kind2 W = kOp := by unfold kind2; rw [if_pos (Or.inr hN)]
        have f2 := first_not B s (.pointer (some ⟨R, 0, none⟩)) false w0'' W'' L R 1 l' P n s.size s.size hq2 hoP hs (by omega) eQ (by intro h; omega) (by rw [hx, hN]) (by rw [run_end (by omega), hsz]) (by rw [wrd_end (by omega)]) (by intro h; omega)
        refine f2.mono ?_
        rintro e w2 ⟨he2, l2, hc2⟩
        refine ⟨by rw [he2, hk2, hN], ?_⟩
        have hemp : isNeg (s.extract s.size s.size) = false := by
          have : s.extract s.size s.size = ⟨#[]⟩ := by
            apply ByteArray.ext
            rw [ByteArray.data_extract]
            apply Array.ext'
            rw [Array.toList_extract, List.extract_eq_take_drop]
            simp
          rw [this]; decide
        rcases hc2 with ⟨h1, _⟩ | ⟨_, hq3⟩
        · rw [hemp] at h1; cases h1
        · rw [← hsz]
          exact serve_eof B s _ _ _ L R 2 _ hq3 hs (by omega)
      · have hk2 : kind2 W = wkind W false := by unfold kind2; rw [if_neg (by rintro (h1 | h1); · rw [hneg] at h1; cases h1
                                                                              · exact hN h1)]
        have f2 := first_plain B s (.pointer (some ⟨R, 0, none⟩)) false w0'' W'' L R 1 l' P hq2 hoP hs (by omega) (by rw [eQ]; intro h; omega) (by rw [eQ, hx]; exact hN)
        rw [eQ, hx] at f2
        refine f2.mono ?_
        rintro e w2 ⟨he2, l2, hq3⟩
        refine ⟨by rw [he2, hk2], ?_⟩
        rw [← hsz] at hq3 ⊢
        exact serve_eof B s _ _ _ L R 2 _ hq3 hs (by omega)

end Go.Proofs.YtdlkdojgbiahgaaGreatFmt.Lx
