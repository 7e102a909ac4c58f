/-
  The walk of FnIdentifierAgreesWithLexerFirstToken: it returns true for every input. Condition: the tables are laid.
-/
import Derived.Test.YtdlkdojgbiahgaaGreatFmtLxZZFirst
import Derived.Test.YtdlkdojgbiahgaaGreatFmtLxTokAny
namespace Go.Proofs.YtdlkdojgbiahgaaGreatFmt.Lx
open Go.RowKit Go.Lib

def b1 : ByteArray := ⟨#[98]⟩
def B1 : ByteArray := ⟨#[66]⟩
theorem take_one (s : ByteArray) (h : 0 < s.size) : s.extract 0 1 = ⟨#[s[0]'h]⟩ := by
  apply ByteArray.ext
  rw [ByteArray.data_extract]
  apply Array.ext'
  rw [Array.toList_extract, List.extract_eq_take_drop, List.drop_zero]
  have hz : s.data.toList.length = s.size := rfl
  rw [List.take_succ_eq_append_getElem (by omega), List.take_zero]
  rfl
/-- What opens with an ASCII letter and is no bytes literal opens a word. -/
theorem opens_of (s : ByteArray) (h0 : 0 < s.size) (ha : an8 (bt s 0) = true) (hd : ¬ (48 ≤ bt s 0 ∧ bt s 0 ≤ 57))
    (hq : ¬ ((s.extract 0 (wrd s 0) = b1 ∨ s.extract 0 (wrd s 0) = B1) ∧ wrd s 0 < s.size ∧ (bt s (wrd s 0) = 39 ∨ bt s (wrd s 0) = 34))) : Opens s 0 := by
  refine ⟨h0, ha, ?_, ?_⟩
  · unfold an8 at ha
    simp only [Bool.or_eq_true, Bool.and_eq_true, decide_eq_true_eq, beq_iff_eq] at ha
    omega
  · intro hb
    have key : ∀ q : Nat, (q = 39 ∨ q = 34) → pk s (0 + 1) ≠ (q : Int) := by
      intro q hqq hp
      apply hq
      unfold pk at hp
      by_cases h1 : 0 + 1 < s.size
      · rw [if_pos h1] at hp
        have hd1 : dr s (0 + 1) = q := by omega
        have hl := dr_low s (0 + 1) (by omega)
        have hb1 : bt s (0 + 1) = q := by rw [← hd1]; exact hl.1
        have hno : an8 (bt s (0 + 1)) = false := by
          rw [hb1]
          rcases hqq with rfl | rfl <;> decide
        have hw : wrd s 0 = 1 := by rw [wrd_yes h0 ha, wrd_no hno]
        rw [hw, take_one s h0]
        have hb0 := bt_get s 0 h0
        refine ⟨?_, h1, by rw [show bt s 1 = q from hb1]; exact hqq⟩
        rcases hb with hb | hb
        · left
          have : s[0]'h0 = 98 := UInt8.toNat_inj.1 (by rw [← hb0, hb]; rfl)
          rw [this]; rfl
        · right
          have : s[0]'h0 = 66 := UInt8.toNat_inj.1 (by rw [← hb0, hb]; rfl)
          rw [this]; rfl
      · rw [if_neg h1] at hp
        omega
    exact ⟨beq_eq_false_iff_ne.2 (key 39 (Or.inl rfl)), beq_eq_false_iff_ne.2 (key 34 (Or.inr rfl))⟩

theorem same_yes (t : Tk) (w : World) : Calls Tryz.prog 15 #[t.val, t.val] w fun e w' => e = .returned (.bool true) ∧ Below w.heap.size w w' := by
  unfold Tk.val
  go_enter Tryz.func15, Tryz.ntmps15
  go_wp2
  go_ret
  exact ⟨rfl, ((Below.refl _ _).alloc (Nat.le_refl _) _).alloc (by simp) _⟩

theorem abytes_ok (s : ByteArray) (w : World) (h : s.size ≤ 1048576) : Calls Tryz.prog 16 #[.string s] w fun e w' => e = .returned (.bool true) ∧ w = w' := by
  have h1 : ¬ (1048576 < (s.size : Int)) := by omega
  go_enter Tryz.func16, Tryz.ntmps16
  go_wp2
  go_ret
  exact ⟨rfl, rfl⟩
theorem abytes_no (s : ByteArray) (w : World) (h : ¬ s.size ≤ 1048576) : Calls Tryz.prog 16 #[.string s] w fun e w' => e = .returned (.bool false) ∧ w = w' := by
  have h1 : 1048576 < (s.size : Int) := by omega
  go_enter Tryz.func16, Tryz.ntmps16
  go_wp2
  go_ret
  exact ⟨rfl, rfl⟩

def FnA (s : ByteArray) (w : World) : Prop := Calls Tryz.prog 5 #[.string s] w fun e w' => e = .returned (.bool true) ∧ Below w.heap.size w w'

theorem agr_big (s : ByteArray) (w : World) (h : ¬ s.size ≤ 65536) : FnA s w := by
  unfold FnA
  have h2 : 65536 < (s.size : Int) := by omega
  by_cases hb : s.size ≤ 1048576
  · have cb := fun W => abytes_ok s W hb
    clear hb
    go_enter Tryz.func5, Tryz.ntmps5
    go_wp2_with (go_at_call 16; refine (cb _).mono ?_; rintro e w1 ⟨rfl, rfl⟩)
    go_ret
    exact ⟨rfl, Below.refl _ _⟩
  · have cb := fun W => abytes_no s W hb
    clear hb
    go_enter Tryz.func5, Tryz.ntmps5
    go_wp2_with (go_at_call 16; refine (cb _).mono ?_; rintro e w1 ⟨rfl, rfl⟩)
    go_ret
    exact ⟨rfl, Below.refl _ _⟩

set_option maxRecDepth 100000 in
set_option maxHeartbeats 4000000 in
/-- The ways that ask nothing of the lexer. -/
theorem agr_out (s : ByteArray) (w : World) (h : s.size ≤ 65536) (hno : s.size = 0 ∨ an8 (bt s 0) = false ∨ (48 ≤ bt s 0 ∧ bt s 0 ≤ 57)) : FnA s w := by
  unfold FnA
  have cb := fun W => abytes_ok s W (by omega)
  have h1 : ¬ (65536 < (s.size : Int)) := by omega
  by_cases h0 : s.size = 0
  · have hz : ((s.size : Int) == 0) = true := by rw [beq_iff_eq]; omega
    clear h h0 hno
    go_enter Tryz.func5, Tryz.ntmps5
    go_wp2_with (go_at_call 16; refine (cb _).mono ?_; rintro e w1 ⟨rfl, rfl⟩)
    go_ret
    exact ⟨rfl, Below.refl _ _⟩
  have hp : 0 < s.size := by omega
  have hpz : (0 : Int) < (s.size : Int) := by omega
  have hz : ((s.size : Int) == 0) = false := by rw [beq_eq_false_iff_ne]; omega
  have b0 : bt s 0 = (s[0]'hp).toNat := bt_get s 0 hp
  generalize hx0 : s[0]'hp = x0 at b0
  have ca := fun W => an8_any x0.toNat W x0.toNat_lt
  rw [b0] at hno
  cases ha : an8 x0.toNat with
  | false =>
    rw [ha] at ca
    clear h h0 ha b0 hno
    go_enter Tryz.func5, Tryz.ntmps5
    go_wp2_with (first | (go_at_call 16; refine (cb _).mono ?_; rintro e w1 ⟨rfl, rfl⟩) | (go_at_call 7; refine (ca _).mono ?_; rintro e w2 ⟨rfl, hb2⟩))
    go_ret
    exact ⟨rfl, hb2⟩
  | true =>
    rw [ha] at ca
    have hd : 48 ≤ x0.toNat ∧ x0.toNat ≤ 57 := by
      rcases hno with hh | hh | hh
      · exact absurd hh h0
      · rw [ha] at hh; cases hh
      · exact hh
    have hd1 : (48 : Int) ≤ (x0.toNat : Int) := by omega
    have hd2 : (x0.toNat : Int) ≤ 57 := by omega
    clear h h0 ha b0 hno hd
    go_enter Tryz.func5, Tryz.ntmps5
    go_wp2_with (first | (go_at_call 16; refine (cb _).mono ?_; rintro e w1 ⟨rfl, rfl⟩) | (go_at_call 7; refine (ca _).mono ?_; rintro e w2 ⟨rfl, hb2⟩))
    go_ret
    exact ⟨rfl, hb2⟩

set_option maxRecDepth 100000 in
set_option maxHeartbeats 4000000 in
/-- The word is ended by no ASCII byte, or it is a bytes literal. -/
theorem agr_skip (s : ByteArray) (w : World) (h : s.size ≤ 65536) (hp : 0 < s.size) (ha : an8 (bt s 0) = true) (hd : ¬ (48 ≤ bt s 0 ∧ bt s 0 ≤ 57)) (hlt : wrd s 0 < s.size)
    (hq : 128 ≤ bt s (wrd s 0) ∨ (bt s (wrd s 0) < 128 ∧ (s.extract 0 (wrd s 0) = b1 ∨ (s.extract 0 (wrd s 0) ≠ b1 ∧ s.extract 0 (wrd s 0) = B1)) ∧ (bt s (wrd s 0) = 39 ∨ bt s (wrd s 0) = 34))) : FnA s w := by
  unfold FnA
  have cb := fun W => abytes_ok s W (by omega)
  have h1 : ¬ (65536 < (s.size : Int)) := by omega
  have hpz : (0 : Int) < (s.size : Int) := by omega
  have hz : ((s.size : Int) == 0) = false := by rw [beq_eq_false_iff_ne]; omega
  have b0 : bt s 0 = (s[0]'hp).toNat := bt_get s 0 hp
  generalize hx0 : s[0]'hp = x0 at b0
  have ca := fun W => an8_any x0.toNat W x0.toNat_lt
  rw [b0] at ha hd
  rw [ha] at ca
  have cr := fun W => wrd_run s 0 W (Nat.zero_le _) (by omega)
  have hle := wrd_le s _ 0 (Nat.zero_le _) rfl
  have hdc : ¬ (48 ≤ (x0.toNat : Int)) ∨ ((48 : Int) ≤ (x0.toNat : Int) ∧ ¬ ((x0.toNat : Int) ≤ 57)) := by omega
  obtain ⟨E, hEq⟩ : ∃ E, wrd s 0 = E := ⟨_, rfl⟩
  rw [hEq] at hlt hq hle
  simp only [hEq] at cr
  have hltz : (E : Int) < (s.size : Int) := by omega
  have hEz : (E : Int) ≤ (s.size : Int) := by omega
  have b1' : bt s E = (s[E]'hlt).toNat := bt_get s E hlt
  generalize hx1 : s[E]'hlt = x1 at b1'
  rw [b1'] at hq
  obtain ⟨W, hW⟩ : ∃ W, s.extract 0 E = W := ⟨_, rfl⟩
  rw [hW] at hq
  rcases hq with hq | ⟨hq, hb, hc⟩
  · have h8z : (128 : Int) ≤ (x1.toNat : Int) := by omega
    clear hq b1' hEq hd ha b0 h
    rcases hdc with hdc | ⟨hdc, hdd⟩
    all_goals
      go_enter Tryz.func5, Tryz.ntmps5
      go_wp2_with (first | (go_at_call 16; refine (cb _).mono ?_; rintro e w1 ⟨rfl, rfl⟩) | (go_at_call 7; refine (ca _).mono ?_; rintro e w2 ⟨rfl, hb2⟩) | (go_at_call 17; refine (cr _).mono ?_; rintro e w3 ⟨rfl, hb3⟩))
      go_ret
      exact ⟨rfl, hb2.trans (hb3.mono hb2.size)⟩
  · have h8z : ¬ (128 : Int) ≤ (x1.toNat : Int) := by omega
    have hcc : ((x1.toNat : Int) == 39) = true ∨ (((x1.toNat : Int) == 39) = false ∧ ((x1.toNat : Int) == 34) = true) := by
      rcases hc with hc | hc <;> rw [hc] <;> decide
    have hbb : (W.toList == [98]) = true ∨ ((W.toList == [98]) = false ∧ (W.toList == [66]) = true) := by
      rcases hb with hb | ⟨hn, hb⟩
      · exact Or.inl (lit_yes (l := [98]) hb)
      · exact Or.inr ⟨lit_no (l := [98]) hn, lit_yes (l := [66]) hb⟩
    clear hq hc hb b1' hEq hd ha b0 h
    rcases hdc with hdc | ⟨hdc, hdd⟩ <;> rcases hcc with hcc | ⟨hcc, hcd⟩ <;> rcases hbb with hbb | ⟨hbb, hbc⟩
    all_goals
      go_enter Tryz.func5, Tryz.ntmps5
      go_wp2_with (first | (go_at_call 16; refine (cb _).mono ?_; rintro e w1 ⟨rfl, rfl⟩) | (go_at_call 7; refine (ca _).mono ?_; rintro e w2 ⟨rfl, hb2⟩) | (go_at_call 17; refine (cr _).mono ?_; rintro e w3 ⟨rfl, hb3⟩))
      go_ret
      exact ⟨rfl, hb2.trans (hb3.mono hb2.size)⟩

set_option maxRecDepth 100000 in
set_option maxHeartbeats 8000000 in
/-- The word not. -/
theorem agr_not (s : ByteArray) (w : World) (hT : Tabs w) (h : s.size ≤ 65536) (hp : 0 < s.size) (ha : an8 (bt s 0) = true) (hd : ¬ (48 ≤ bt s 0 ∧ bt s 0 ≤ 57)) (hE : wrd s 0 < s.size → bt s (wrd s 0) < 128) (ho : Opens s 0) (hN : s.extract 0 (wrd s 0) = wNot) : FnA s w := by
  unfold FnA
  have cb := fun W => abytes_ok s W (by omega)
  have h1 : ¬ (65536 < (s.size : Int)) := by omega
  have hpz : (0 : Int) < (s.size : Int) := by omega
  have hz : ((s.size : Int) == 0) = false := by rw [beq_eq_false_iff_ne]; omega
  have b0 : bt s 0 = (s[0]'hp).toNat := bt_get s 0 hp
  generalize hx0 : s[0]'hp = x0 at b0
  have ca := fun W => an8_any x0.toNat W x0.toNat_lt
  rw [b0] at ha hd
  rw [ha] at ca
  have cr := fun W => wrd_run s 0 W (Nat.zero_le _) (by omega)
  have hle := wrd_le s _ 0 (Nat.zero_le _) rfl
  have hdc : ¬ (48 ≤ (x0.toNat : Int)) ∨ ((48 : Int) ≤ (x0.toNat : Int) ∧ ¬ ((x0.toNat : Int) ≤ 57)) := by omega
  have h3 : wrd s 0 = 3 := by
    have := size_take s (wrd s 0) hle.2
    rw [hN] at this
    exact this.symm
  have h2a : bt s (3 - 1) < 128 := by
    have hb2 : bt (s.extract 0 3) 2 = bt s 2 := bt_take s 3 2 (by omega) (by omega)
    rw [← h3, hN] at hb2
    have : bt wNot 2 = 116 := by decide
    show bt s 2 < 128
    omega
  have HF := Lib.hid fun W hW => zzFirst_any s W ⟨0, 3, kOp, wNot⟩ .nilIface true (Or.inl ⟨rfl, rfl⟩) hW (fun W0 W1 L R hq => (first_not_any W0.heap.size s (.pointer (some ⟨R, 0, none⟩)) false W0 W1 L R 0 _ 0 3 hq ho (by omega) (by omega) h3 (by rw [← h3]; exact hE) (by rw [← h3]; exact hN) (by omega) h2a))
  rw [h3] at hE hle hN
  simp only [h3] at cr
  have h3z : (3 : Int) ≤ (s.size : Int) := by omega
  have f0 : ((s.extract 0 3).toList == [98]) = false := lit_no (l := [98]) (by rw [hN]; decide)
  have f1 : ((s.extract 0 3).toList == [66]) = false := lit_no (l := [66]) (by rw [hN]; decide)
  have f2 : ((s.extract 0 3).toList == [110, 111, 116]) = true := lit_yes (l := [110, 111, 116]) hN
  obtain ⟨W, hW⟩ : ∃ W, s.extract 0 3 = W := ⟨_, rfl⟩
  rw [hW] at f0 f1 f2
  have HT := Lib.hid hT
  clear hT hN ho h2a
  by_cases hlt : 3 < s.size
  · have hltz : (3 : Int) < (s.size : Int) := by omega
    have hE2 := hE hlt
    have b1' : bt s 3 = (s[3]'hlt).toNat := bt_get s 3 hlt
    generalize hx1 : s[3]'hlt = x1 at b1'
    rw [b1'] at hE2
    have h8z : ¬ (128 : Int) ≤ (x1.toNat : Int) := by omega
    clear hE hE2 b1' hd ha b0 h h3
    rcases hdc with hdc | ⟨hdc, hdd⟩
    all_goals
      go_enter Tryz.func5, Tryz.ntmps5
      go_wp2_with (first | (go_at_call 16; refine (cb _).mono ?_; rintro e w1 ⟨rfl, rfl⟩) | (go_at_call 7; refine (ca _).mono ?_; rintro e w2 ⟨rfl, hb2⟩) | (go_at_call 17; refine (cr _).mono ?_; rintro e w3 ⟨rfl, hb3⟩))
      have hb23 := hb2.trans (hb3.mono hb2.size)
      have c4 := HF.out _ (HT.out.below hb23)
      clear cb ca cr hb2 hb3 HF HT
      refine c4.mono ?_
      rintro e w4 ⟨rfl, hb4⟩
      have hb24 := hb23.trans (hb4.mono hb23.size)
      clear c4 hb23 hb4
      have ct := fun W2 => isTok_yes ⟨0, 3, kOp, wNot⟩ W2
      unfold Tk.val at ct ⊢
      simp only at ct
      go_wp2_with (go_at_call 9; refine (ct _).mono ?_; rintro e w5 ⟨rfl, hb5⟩)
      go_ret
      exact ⟨rfl, (hb24.alloc hb24.size _).trans (hb5.mono (hb24.alloc hb24.size _).size)⟩
  · have hltz : ¬ (3 : Int) < (s.size : Int) := by omega
    clear hE hd ha b0 h h3
    rcases hdc with hdc | ⟨hdc, hdd⟩
    all_goals
      go_enter Tryz.func5, Tryz.ntmps5
      go_wp2_with (first | (go_at_call 16; refine (cb _).mono ?_; rintro e w1 ⟨rfl, rfl⟩) | (go_at_call 7; refine (ca _).mono ?_; rintro e w2 ⟨rfl, hb2⟩) | (go_at_call 17; refine (cr _).mono ?_; rintro e w3 ⟨rfl, hb3⟩))
      have hb23 := hb2.trans (hb3.mono hb2.size)
      have c4 := HF.out _ (HT.out.below hb23)
      clear cb ca cr hb2 hb3 HF HT
      refine c4.mono ?_
      rintro e w4 ⟨rfl, hb4⟩
      have hb24 := hb23.trans (hb4.mono hb23.size)
      clear c4 hb23 hb4
      have ct := fun W2 => isTok_yes ⟨0, 3, kOp, wNot⟩ W2
      unfold Tk.val at ct ⊢
      simp only at ct
      go_wp2_with (go_at_call 9; refine (ct _).mono ?_; rintro e w5 ⟨rfl, hb5⟩)
      go_ret
      exact ⟨rfl, (hb24.alloc hb24.size _).trans (hb5.mono (hb24.alloc hb24.size _).size)⟩

set_option maxRecDepth 100000 in
set_option maxHeartbeats 16000000 in
/-- Another word. -/
theorem agr_word (s : ByteArray) (w : World) (hT : Tabs w) (h : s.size ≤ 65536) (hp : 0 < s.size) (ha : an8 (bt s 0) = true) (hd : ¬ (48 ≤ bt s 0 ∧ bt s 0 ≤ 57)) (hE : wrd s 0 < s.size → bt s (wrd s 0) < 128) (ho : Opens s 0) (hN : s.extract 0 (wrd s 0) ≠ wNot)
    (hq : ¬ ((s.extract 0 (wrd s 0) = b1 ∨ s.extract 0 (wrd s 0) = B1) ∧ wrd s 0 < s.size ∧ (bt s (wrd s 0) = 39 ∨ bt s (wrd s 0) = 34))) : FnA s w := by
  unfold FnA
  have cb := fun W => abytes_ok s W (by omega)
  have h1 : ¬ (65536 < (s.size : Int)) := by omega
  have hpz : (0 : Int) < (s.size : Int) := by omega
  have hz : ((s.size : Int) == 0) = false := by rw [beq_eq_false_iff_ne]; omega
  have b0 : bt s 0 = (s[0]'hp).toNat := bt_get s 0 hp
  generalize hx0 : s[0]'hp = x0 at b0
  have ca := fun W => an8_any x0.toNat W x0.toNat_lt
  rw [b0] at ha hd
  rw [ha] at ca
  have cr := fun W => wrd_run s 0 W (Nat.zero_le _) (by omega)
  have hle := wrd_le s _ 0 (Nat.zero_le _) rfl
  have hdc : ¬ (48 ≤ (x0.toNat : Int)) ∨ ((48 : Int) ≤ (x0.toNat : Int) ∧ ¬ ((x0.toNat : Int) ≤ 57)) := by omega
  have HF := Lib.hid fun W hW => zzFirst_any s W ⟨0, wrd s 0, wkind (s.extract 0 (wrd s 0)) false, s.extract 0 (wrd s 0)⟩ .nilIface true (Or.inl ⟨rfl, rfl⟩) hW (fun W0 W1 L R hq => (first_plain W0.heap.size s (.pointer (some ⟨R, 0, none⟩)) false W0 W1 L R 0 _ 0 hq ho (by omega) (by omega) hE hN).mono (fun e w' ⟨he, l', hh⟩ => ⟨he, hh.bel⟩))
  have ci := fun W (hW : Tabs W) => zzIdent_any s false W hW (by omega) hE
  unfold IdOut at ci
  obtain ⟨E, hEq⟩ : ∃ E, wrd s 0 = E := ⟨_, rfl⟩
  rw [hEq] at hE hq hle hN HF
  simp only [hEq] at cr ci
  have hEz : (E : Int) ≤ (s.size : Int) := by omega
  obtain ⟨W, hW⟩ : ∃ W, s.extract 0 E = W := ⟨_, rfl⟩
  rw [hW] at hq hN HF
  simp only [hW] at ci
  obtain ⟨D, hD⟩ : ∃ D, wkind W false = D := ⟨_, rfl⟩
  rw [hD] at HF
  simp only [hD] at ci
  have f2 : (W.toList == [110, 111, 116]) = false := lit_no (l := [110, 111, 116]) hN
  have HI := Lib.hid ci
  have HT := Lib.hid hT
  have HN := Lib.hid hN
  have hbb : ((W.toList == [98]) = false ∧ (W.toList == [66]) = false) ∨ ((W.toList == [98]) = true ∧ W = b1) ∨ ((W.toList == [98]) = false ∧ (W.toList == [66]) = true ∧ W = B1) := by
    by_cases e1 : W = b1
    · exact Or.inr (Or.inl ⟨lit_yes (l := [98]) e1, e1⟩)
    · by_cases e2 : W = B1
      · exact Or.inr (Or.inr ⟨lit_no (l := [98]) e1, lit_yes (l := [66]) e2, e2⟩)
      · exact Or.inl ⟨lit_no (l := [98]) e1, lit_no (l := [66]) e2⟩
  clear hT hN ho ci hD hEq
  by_cases hlt : E < s.size
  · have hltz : (E : Int) < (s.size : Int) := by omega
    have hE2 := hE hlt
    have b1' : bt s E = (s[E]'hlt).toNat := bt_get s E hlt
    generalize hx1 : s[E]'hlt = x1 at b1'
    rw [b1'] at hE2 hq
    have h8z : ¬ (128 : Int) ≤ (x1.toNat : Int) := by omega
    have hcc : ((W.toList == [98]) = false ∧ (W.toList == [66]) = false) ∨ ((W.toList == [98]) = true ∧ ((x1.toNat : Int) == 39) = false ∧ ((x1.toNat : Int) == 34) = false) ∨ ((W.toList == [98]) = false ∧ (W.toList == [66]) = true ∧ ((x1.toNat : Int) == 39) = false ∧ ((x1.toNat : Int) == 34) = false) := by
      rcases hbb with hbb | ⟨hbb, hw⟩ | ⟨hbb, hbc, hw⟩
      · exact Or.inl hbb
      · refine Or.inr (Or.inl ⟨hbb, ?_, ?_⟩) <;> (rw [beq_eq_false_iff_ne]; intro hh; exact hq ⟨Or.inl hw, hlt, by omega⟩)
      · refine Or.inr (Or.inr ⟨hbb, hbc, ?_, ?_⟩) <;> (rw [beq_eq_false_iff_ne]; intro hh; exact hq ⟨Or.inr hw, hlt, by omega⟩)
    clear hE hE2 b1' hd ha b0 h hbb hq
    rcases hdc with hdc | ⟨hdc, hdd⟩ <;> rcases hcc with ⟨hc1, hc2⟩ | ⟨hc1, hc2, hc3⟩ | ⟨hc1, hc2, hc3, hc4⟩
    all_goals
      go_enter Tryz.func5, Tryz.ntmps5
      go_wp2_with (first | (go_at_call 16; refine (cb _).mono ?_; rintro e w1 ⟨rfl, rfl⟩) | (go_at_call 7; refine (ca _).mono ?_; rintro e w2 ⟨rfl, hb2⟩) | (go_at_call 17; refine (cr _).mono ?_; rintro e w3 ⟨rfl, hb3⟩))
      have hb23 := hb2.trans (hb3.mono hb2.size)
      have c4 := HF.out _ (HT.out.below hb23)
      clear cb ca cr hb2 hb3 HF
      refine c4.mono ?_
      rintro e w4 ⟨rfl, hb4⟩
      have hb24 := hb23.trans (hb4.mono hb23.size)
      clear c4 hb23 hb4
      unfold Tk.val
      go_wp2_with (fail)
      generalize hX : w4.alloc _ = X
      obtain ⟨N, hN⟩ : ∃ N, w4.heap.size = N := ⟨_, rfl⟩
      have hold : HoldT w X N 0 (E : Int) D W := by
        refine ⟨by rw [← hX]; exact hb24.alloc hb24.size _, ?_⟩
        rw [← hX, ← hN]
        exact ⟨_, alloc_new w4 _⟩
      rw [hN]
      have ci := HI.out X (HT.out.below hold.1)
      clear hX hN hb24 HI HT
      refine ci.mono ?_
      rintro e w5 ⟨hb5, hid⟩
      have hold2 := hold.step hb5
      clear hold hb5 ci
      rcases hid with ⟨q, rfl⟩ | ⟨q, rfl⟩
      · exact absurd q HN.out
      have cs := fun W2 => same_yes ⟨0, E, D, W⟩ W2
      obtain ⟨k0, k1, k2, k3, _⟩ := hold2.all
      have HH := Lib.hid hold2.1
      have hsz : N < w5.heap.size := block_lt hold2.2.choose_spec
      clear q hold2
      unfold Tk.val at cs ⊢
      simp only at cs
      go_wp2_with (go_at_call 15; refine (cs _).mono ?_; rintro e w6 ⟨rfl, hb6⟩)
      go_ret
      exact ⟨rfl, (HH.out.alloc HH.out.size _).trans (hb6.mono (HH.out.alloc HH.out.size _).size)⟩
  · have hltz : ¬ (E : Int) < (s.size : Int) := by omega
    clear hE hd ha b0 h hq
    rcases hdc with hdc | ⟨hdc, hdd⟩ <;> rcases hbb with ⟨hc1, hc2⟩ | ⟨hc1, -⟩ | ⟨hc1, hc2, -⟩
    all_goals
      go_enter Tryz.func5, Tryz.ntmps5
      go_wp2_with (first | (go_at_call 16; refine (cb _).mono ?_; rintro e w1 ⟨rfl, rfl⟩) | (go_at_call 7; refine (ca _).mono ?_; rintro e w2 ⟨rfl, hb2⟩) | (go_at_call 17; refine (cr _).mono ?_; rintro e w3 ⟨rfl, hb3⟩))
      have hb23 := hb2.trans (hb3.mono hb2.size)
      have c4 := HF.out _ (HT.out.below hb23)
      clear cb ca cr hb2 hb3 HF
      refine c4.mono ?_
      rintro e w4 ⟨rfl, hb4⟩
      have hb24 := hb23.trans (hb4.mono hb23.size)
      clear c4 hb23 hb4
      unfold Tk.val
      go_wp2_with (fail)
      generalize hX : w4.alloc _ = X
      obtain ⟨N, hN⟩ : ∃ N, w4.heap.size = N := ⟨_, rfl⟩
      have hold : HoldT w X N 0 (E : Int) D W := by
        refine ⟨by rw [← hX]; exact hb24.alloc hb24.size _, ?_⟩
        rw [← hX, ← hN]
        exact ⟨_, alloc_new w4 _⟩
      rw [hN]
      have ci := HI.out X (HT.out.below hold.1)
      clear hX hN hb24 HI HT
      refine ci.mono ?_
      rintro e w5 ⟨hb5, hid⟩
      have hold2 := hold.step hb5
      clear hold hb5 ci
      rcases hid with ⟨q, rfl⟩ | ⟨q, rfl⟩
      · exact absurd q HN.out
      have cs := fun W2 => same_yes ⟨0, E, D, W⟩ W2
      obtain ⟨k0, k1, k2, k3, _⟩ := hold2.all
      have HH := Lib.hid hold2.1
      have hsz : N < w5.heap.size := block_lt hold2.2.choose_spec
      clear q hold2
      unfold Tk.val at cs ⊢
      simp only at cs
      go_wp2_with (go_at_call 15; refine (cs _).mono ?_; rintro e w6 ⟨rfl, hb6⟩)
      go_ret
      exact ⟨rfl, (HH.out.alloc HH.out.size _).trans (hb6.mono (HH.out.alloc HH.out.size _).size)⟩

theorem agree_walk (s : ByteArray) (w : World) (hT : Tabs w) : FnA s w := by
  by_cases h : s.size ≤ 65536
  · by_cases h0 : s.size = 0
    · exact agr_out s w h (Or.inl h0)
    have hp : 0 < s.size := by omega
    cases ha : an8 (bt s 0) with
    | false => exact agr_out s w h (Or.inr (Or.inl ha))
    | true =>
      by_cases hd : 48 ≤ bt s 0 ∧ bt s 0 ≤ 57
      · exact agr_out s w h (Or.inr (Or.inr hd))
      by_cases hE : wrd s 0 < s.size ∧ 128 ≤ bt s (wrd s 0)
      · exact agr_skip s w h hp ha hd hE.1 (Or.inl hE.2)
      have hE2 : wrd s 0 < s.size → bt s (wrd s 0) < 128 := fun hlt => by
        rcases Nat.lt_or_ge (bt s (wrd s 0)) 128 with k | k
        · exact k
        · exact absurd ⟨hlt, k⟩ hE
      by_cases hq : (s.extract 0 (wrd s 0) = b1 ∨ s.extract 0 (wrd s 0) = B1) ∧ wrd s 0 < s.size ∧ (bt s (wrd s 0) = 39 ∨ bt s (wrd s 0) = 34)
      · refine agr_skip s w h hp ha hd hq.2.1 (Or.inr ⟨hE2 hq.2.1, ?_, hq.2.2⟩)
        by_cases e1 : s.extract 0 (wrd s 0) = b1
        · exact Or.inl e1
        · exact Or.inr ⟨e1, hq.1.resolve_left e1⟩
      · have ho := opens_of s hp ha hd hq
        by_cases hN : s.extract 0 (wrd s 0) = wNot
        · exact agr_not s w hT h hp ha hd hE2 ho hN
        · exact agr_word s w hT h hp ha hd hE2 ho hN hq
  · exact agr_big s w h

end Go.Proofs.YtdlkdojgbiahgaaGreatFmt.Lx
