/-
  The contract of identifier over an ASCII word. Conditions: lexer, ring and slots lie in new blocks, the tables are laid, the text has at most 2^30 bytes.
-/
import Derived.Test.YtdlkdojgbiahgaaGreatFmtLxEmit
namespace Go.Proofs.YtdlkdojgbiahgaaGreatFmt.Lx
open Go.RowKit Go.Lib

def kOp : ByteArray := ⟨#[79, 112, 101, 114, 97, 116, 111, 114]⟩
def kId : ByteArray := ⟨#[73, 100, 101, 110, 116, 105, 102, 105, 101, 114]⟩
def wNot : ByteArray := ⟨#[110, 111, 116]⟩
/-- The kind of a word. -/
def wkind (W : ByteArray) (dis : Bool) : ByteArray :=
  if W = (⟨#[105, 110]⟩ : ByteArray) ∨ W = (⟨#[111, 114]⟩ : ByteArray) ∨ W = (⟨#[97, 110, 100]⟩ : ByteArray) ∨ W = (⟨#[109, 97, 116, 99, 104, 101, 115]⟩ : ByteArray) ∨ W = (⟨#[99, 111, 110, 116, 97, 105, 110, 115]⟩ : ByteArray) ∨ W = (⟨#[115, 116, 97, 114, 116, 115, 87, 105, 116, 104]⟩ : ByteArray) ∨ W = (⟨#[101, 110, 100, 115, 87, 105, 116, 104]⟩ : ByteArray) ∨ W = (⟨#[108, 101, 116]⟩ : ByteArray) then kOp
  else if W = (⟨#[105, 102]⟩ : ByteArray) ∨ W = (⟨#[101, 108, 115, 101]⟩ : ByteArray) then (if dis then kId else kOp) else kId
theorem wkind_op (W : ByteArray) (dis : Bool) (h : W = (⟨#[105, 110]⟩ : ByteArray) ∨ W = (⟨#[111, 114]⟩ : ByteArray) ∨ W = (⟨#[97, 110, 100]⟩ : ByteArray) ∨ W = (⟨#[109, 97, 116, 99, 104, 101, 115]⟩ : ByteArray) ∨ W = (⟨#[99, 111, 110, 116, 97, 105, 110, 115]⟩ : ByteArray) ∨ W = (⟨#[115, 116, 97, 114, 116, 115, 87, 105, 116, 104]⟩ : ByteArray) ∨ W = (⟨#[101, 110, 100, 115, 87, 105, 116, 104]⟩ : ByteArray) ∨ W = (⟨#[108, 101, 116]⟩ : ByteArray)) : wkind W dis = kOp := by unfold wkind; rw [if_pos h]
theorem wkind_if (dis : Bool) : wkind (⟨#[105, 102]⟩ : ByteArray) dis = (if dis then kId else kOp) := by unfold wkind; rw [if_neg (by decide), if_pos (by decide)]
theorem wkind_else (dis : Bool) : wkind (⟨#[101, 108, 115, 101]⟩ : ByteArray) dis = (if dis then kId else kOp) := by unfold wkind; rw [if_neg (by decide), if_pos (by decide)]
theorem wkind_id (W : ByteArray) (dis : Bool) (h1 : ¬ W = (⟨#[105, 110]⟩ : ByteArray)) (h2 : ¬ W = (⟨#[111, 114]⟩ : ByteArray)) (h3 : ¬ W = (⟨#[97, 110, 100]⟩ : ByteArray)) (h4 : ¬ W = (⟨#[109, 97, 116, 99, 104, 101, 115]⟩ : ByteArray)) (h5 : ¬ W = (⟨#[99, 111, 110, 116, 97, 105, 110, 115]⟩ : ByteArray)) (h6 : ¬ W = (⟨#[115, 116, 97, 114, 116, 115, 87, 105, 116, 104]⟩ : ByteArray)) (h7 : ¬ W = (⟨#[101, 110, 100, 115, 87, 105, 116, 104]⟩ : ByteArray)) (h8 : ¬ W = (⟨#[108, 101, 116]⟩ : ByteArray)) (h9 : ¬ W = (⟨#[105, 102]⟩ : ByteArray)) (h10 : ¬ W = (⟨#[101, 108, 115, 101]⟩ : ByteArray)) : wkind W dis = kId := by
  unfold wkind
  rw [if_neg (by simp only [h1, h2, h3, h4, h5, h6, h7, h8, or_self, not_false_eq_true]), if_neg (by simp only [h9, h10, or_self, not_false_eq_true])]
theorem lit_no {W : ByteArray} {l : List UInt8} (h : ¬ W = ⟨l.toArray⟩) : (W.toList == l) = false := by
  rw [beq_eq_false_iff_ne]
  intro e
  apply h
  rw [ByteArray.toList_eq] at e
  cases W with
  | mk d => subst e; rfl
theorem lit_yes {W : ByteArray} {l : List UInt8} (h : W = ⟨l.toArray⟩) : (W.toList == l) = true := by
  rw [beq_iff_eq, h, ByteArray.toList_mk]

/-- Behind the rune that ends a word: that rune is read, or the text is at its end. -/
def Bk (B : Nat) (x : LS) (w0 : Base) (w : World) (L R b n : Nat) (l : List Tk) (m : Nat) : Prop :=
  (m < x.s.size ∧ bt x.s m < 128 ∧ LQ B (x.at (m + 1) (m + 1)) w0 w L R b n l) ∨ LQ B { x.at m m with eof := true } w0 w L R b n l
theorem Bk.below {B : Nat} {x : LS} {w0 : Base} {w w' : World} {L R b n : Nat} {l : List Tk} {m : Nat} (h : Bk B x w0 w L R b n l m) (hb : Below w.heap.size w w') : Bk B x w0 w' L R b n l m := by
  rcases h with ⟨h1, h2, h3⟩ | h
  · exact Or.inl ⟨h1, h2, h3.below hb⟩
  · exact Or.inr (h.below hb)
theorem Bk.tabs {B : Nat} {x : LS} {w0 : Base} {w : World} {L R b n : Nat} {l : List Tk} {m : Nat} (h : Bk B x w0 w L R b n l m) : Tabs w := by
  rcases h with ⟨h1, h2, h3⟩ | h
  · exact h3.anch.tabs
  · exact h.anch.tabs
theorem next_stop (B : Nat) (x : LS) (w0 : Base) (w : World) (L R b n : Nat) (l : List Tk) (m : Nat) (h : LQ B (x.at m m) w0 w L R b n l) (hs : x.s.size ≤ 1073741824) (hE : m < x.s.size → bt x.s m < 128 ∧ an8 (bt x.s m) = false) :
    Calls Tryz.prog 30 #[.pointer (some ⟨L, 0, none⟩)] w fun e w' => ∃ r : Int, e = .returned (.int .i32 r) ∧ anU r = false ∧ -2147483648 ≤ r ∧ r ≤ 2147483647 ∧ Bk B x w0 w' L R b n l m := by
  by_cases hlt : m < x.s.size
  · obtain ⟨h8, ha⟩ := hE hlt
    have hd := dec_ascii x.s m h8
    have cn := next_LQ B (x.at m m) w0 w L R b n l h hlt hs (by show m ≤ 1073741824; omega)
    have hd1 : dr (x.at m m).s (x.at m m).eb = bt x.s m := hd.1
    have hd2 : dw (x.at m m).s (x.at m m).eb = 1 := hd.2
    rw [hd1, hd2] at cn
    refine cn.mono ?_
    rintro e w' ⟨rfl, h1⟩
    exact ⟨_, rfl, by rw [anU_ascii h8, ha], by omega, by omega, Or.inl ⟨hlt, h8, h1⟩⟩
  · refine (next_LQ_end B (x.at m m) w0 w L R b n l h (by show x.s.size ≤ m; omega)).mono ?_
    rintro e w' ⟨rfl, h1⟩
    exact ⟨_, rfl, anU_eof, by omega, by omega, Or.inr h1⟩
theorem backup_stop (B : Nat) (x : LS) (w0 : Base) (w : World) (L R b n : Nat) (l : List Tk) (m : Nat) (h : Bk B x w0 w L R b n l m) (hs : x.s.size ≤ 1073741824) (he : x.eof = false) :
    Calls Tryz.prog 32 #[.pointer (some ⟨L, 0, none⟩)] w fun e w' => e = .returned (.tuple #[]) ∧ LQ B (x.at m m) w0 w' L R b n l := by
  rcases h with ⟨h1, h2, h3⟩ | h
  · exact backup_ascii B x w0 w L R b n l m m h3 he h1 hs h2 (Nat.le_refl _)
  · have c := backup_eof B { x.at m m with eof := true } w0 w L R b n l h rfl
    have e1 : ({ ({ x.at m m with eof := true } : LS) with eof := false } : LS) = x.at m m := by
      cases x; simp only [LS.at] at he ⊢; subst he; rfl
    rw [e1] at c
    exact c

/-- Where identifier has found its word: W, from the start of the token to E. -/
def IdPost (B : Nat) (x : LS) (w0 : Base) (L R b n : Nat) (l : List Tk) (E : Nat) (W : ByteArray) (e : Ending) (w' : World) : Prop :=
  (W = wNot ∧ e = .returned (.func (.func 38) #[] #[]) ∧ LQ B (x.at E E) w0 w' L R b n l) ∨
  (W ≠ wNot ∧ e = .returned rootV ∧ LQ B { x with sb := E, sr := E, eb := E, er := E } w0 w' L R b (n + 1) (l.set (b + n) ⟨x.sr, E, wkind W x.dis, W⟩))

set_option maxHeartbeats 16000000 in
theorem ident_LQ (B : Nat) (x : LS) (w0 : Base) (w : World) (L R b n : Nat) (l : List Tk) (p : Nat) (h : LQ B (x.at p p) w0 w L R b n l) (hr : b + n < 10) (he : x.eof = false) (hsb : x.sb ≤ p) (hp : p ≤ x.s.size) (hs : x.s.size ≤ 1073741824) (hE : wrd x.s p < x.s.size → bt x.s (wrd x.s p) < 128) :
    Calls Tryz.prog 26 #[.pointer (some ⟨L, 0, none⟩)] w (IdPost B x w0 L R b n l (wrd x.s p) (x.s.extract x.sb (wrd x.s p))) := by
  have hle := wrd_le x.s _ p hp rfl
  obtain ⟨E, hEq⟩ : ∃ E, wrd x.s p = E := ⟨_, rfl⟩
  rw [hEq] at hE hle ⊢
  obtain ⟨W, hW⟩ : ∃ W, x.s.extract x.sb E = W := ⟨_, rfl⟩
  rw [hW]
  have HW := Lib.hid hW
  have HE := Lib.hid hE
  have H0 := Lib.hid hEq
  clear hW hE hEq
  go_enter Tryz.func26, Tryz.ntmps26
  go_wp2_with (fail)
  go_step3
  go_wp2_with (fail)
  go_step3
  go_wp2_with (fail)
  go_loopg [] (x.s.size + 1 - p) (fun k wr => ∃ m, m ≤ E ∧ k = x.s.size + 1 - m ∧ Hid (wrd x.s m = E) ∧ LQ B (x.at m m) w0 wr L R b n l)
  case atStart => exact ⟨p, hle.1, rfl, H0, h⟩
  case round =>
    clear h H0
    obtain ⟨m, hm, hk, H1, hq⟩ := hrel
    have HK := Lib.hid hk
    clear hk
    by_cases hc : m < x.s.size ∧ an8 (bt x.s m) = true
    · obtain ⟨hlt, ha⟩ := hc
      have h8 := an8_lt ha
      have hd := dec_ascii x.s m h8
      have cn := next_LQ B (x.at m m) w0 wr L R b n l hq hlt hs (by show m ≤ _; omega)
      have hd1 : dr (x.at m m).s (x.at m m).eb = bt x.s m := hd.1
      have hd2 : dw (x.at m m).s (x.at m m).eb = 1 := hd.2
      rw [hd1, hd2] at cn
      have H2 : Hid (wrd x.s (m + 1) = E) := (wrd_yes hlt ha).symm.trans H1.out
      have hm2 : m + 1 ≤ E := by
        have := wrd_le x.s _ (m + 1) hlt rfl
        rw [H2.out] at this
        exact this.1
      have cu := fun W2 (hT : Tabs W2) => alnum_any (bt x.s m : Int) W2 hT (by omega) (by omega)
      rw [anU_ascii h8, ha] at cu
      have HC := Lib.hid cu
      clear cu hd1 hd2 hd ha hq H1
      go_wp2_with (first | (go_at_call 30; refine cn.mono ?_; rintro e w1 ⟨rfl, h1⟩) | (go_at_call 36; refine (HC.out _ h1.anch.tabs).mono ?_; rintro e w2 ⟨rfl, hb2⟩))
      have h2 := h1.below hb2
      go_roundg (x.s.size + 1 - (m + 1))
      case measure => have := HK.out; omega
      case rel => exact ⟨m + 1, hm2, rfl, H2, h2⟩
    · have hmE : m = E := by
        rw [← H1.out]
        by_cases hlt : m < x.s.size
        · have ha : an8 (bt x.s m) = false := by
            cases hx : an8 (bt x.s m) with
            | false => rfl
            | true => exact absurd ⟨hlt, hx⟩ hc
          exact (wrd_no ha).symm
        · exact (wrd_end hlt).symm
      subst hmE
      clear HK H1 hm
      have cn := next_stop B x w0 wr L R b n l m hq hs (fun hlt => ⟨HE.out hlt, by
        cases hx : an8 (bt x.s m) with
        | false => rfl
        | true => exact absurd ⟨hlt, hx⟩ hc⟩)
      have cu := fun (r : Int) W2 (h1 : Bk B x w0 W2 L R b n l m) (ha : anU r = false) h2 h3 => ha ▸ alnum_any r W2 h1.tabs h2 h3
      have HC := Lib.hid cu
      have ck := fun W2 hq2 => backup_stop B x w0 W2 L R b n l m hq2 hs he
      have HB := Lib.hid ck
      have cw := fun W2 (hq2 : LQ B (x.at m m) w0 W2 L R b n l) => word_any B L (x.at m m) W2 hq2.lx hq2.anch (by show x.sb ≤ m; omega) (by show m ≤ x.s.size; omega) hs
      have e1 : (x.at m m).s.extract (x.at m m).sb (x.at m m).eb = W := HW.out
      rw [e1] at cw
      have HD := Lib.hid cw
      have ce := fun W2 (hq2 : LQ B (x.at m m) w0 W2 L R b n l) kind => emit_LQ B (x.at m m) w0 W2 L R b n l kind hq2 hr (by show x.sb ≤ m; omega) (by show m ≤ x.s.size; omega) hs
      rw [e1] at ce
      have HM := Lib.hid ce
      clear cu ck cw ce e1 hc hq
      go_wp2_with (fail)
      refine cn.mono ?_
      rintro e w1 ⟨r, rfl, hr1, hr2, hr3, h1⟩
      have cu := HC.out r _ h1 hr1 hr2 hr3
      clear HC cn hr1 hr2 hr3
      go_wp2_with (fail)
      refine cu.mono ?_
      rintro e w2 ⟨rfl, hb2⟩
      have h2 := HB.out _ (h1.below hb2)
      clear HB cu hb2 h1
      go_wp2_with (fail)
      refine h2.mono ?_
      rintro e w3 ⟨rfl, h3⟩
      have cw := HD.out _ h3
      have H3 := Lib.hid h3
      clear h2 h3 HD
      go_wp2_with (fail)
      refine cw.mono ?_
      rintro e w4 ⟨rfl, hb4⟩
      clear cw
      have h4 := H3.out.below hb4
      clear H3 hb4
      have c9 := h4.lx.c9
      simp only [LS.at] at c9
      have H4 := Lib.hid h4
      have c4 := HM.out _ h4
      have HF := Lib.hid c4
      clear h4 c4 HM HW HE
      by_cases q0 : W = (⟨#[110, 111, 116]⟩ : ByteArray)
      · have f0 := lit_yes (l := [110, 111, 116]) q0
        have HN : Hid (W = wNot) := q0
        clear q0 HF c9
        go_wp2
        go_ret
        exact Or.inl ⟨HN.out, rfl, H4.out⟩
      by_cases q1 : W = (⟨#[105, 110]⟩ : ByteArray)
      · have f0 := lit_no (l := [110, 111, 116]) q0
        have f1 := lit_yes (l := [105, 110]) q1
        have HN : Hid (W ≠ wNot) := q0
        have HV : Hid (wkind W x.dis = kOp) := wkind_op W x.dis (Or.inl q1)
        clear q0 q1 H4 c9
        go_wp2_with (go_at_call 34; refine (HF.out _).mono ?_; rintro e w5 ⟨rfl, h5⟩)
        go_ret
        exact Or.inr ⟨HN.out, rfl, by rw [HV.out]; exact h5⟩
      by_cases q2 : W = (⟨#[111, 114]⟩ : ByteArray)
      · have f0 := lit_no (l := [110, 111, 116]) q0
        have f1 := lit_no (l := [105, 110]) q1
        have f2 := lit_yes (l := [111, 114]) q2
        have HN : Hid (W ≠ wNot) := q0
        have HV : Hid (wkind W x.dis = kOp) := wkind_op W x.dis (Or.inr (Or.inl q2))
        clear q0 q1 q2 H4 c9
        go_wp2_with (go_at_call 34; refine (HF.out _).mono ?_; rintro e w5 ⟨rfl, h5⟩)
        go_ret
        exact Or.inr ⟨HN.out, rfl, by rw [HV.out]; exact h5⟩
      by_cases q3 : W = (⟨#[97, 110, 100]⟩ : ByteArray)
      · have f0 := lit_no (l := [110, 111, 116]) q0
        have f1 := lit_no (l := [105, 110]) q1
        have f2 := lit_no (l := [111, 114]) q2
        have f3 := lit_yes (l := [97, 110, 100]) q3
        have HN : Hid (W ≠ wNot) := q0
        have HV : Hid (wkind W x.dis = kOp) := wkind_op W x.dis (Or.inr (Or.inr (Or.inl q3)))
        clear q0 q1 q2 q3 H4 c9
        go_wp2_with (go_at_call 34; refine (HF.out _).mono ?_; rintro e w5 ⟨rfl, h5⟩)
        go_ret
        exact Or.inr ⟨HN.out, rfl, by rw [HV.out]; exact h5⟩
      by_cases q4 : W = (⟨#[109, 97, 116, 99, 104, 101, 115]⟩ : ByteArray)
      · have f0 := lit_no (l := [110, 111, 116]) q0
        have f1 := lit_no (l := [105, 110]) q1
        have f2 := lit_no (l := [111, 114]) q2
        have f3 := lit_no (l := [97, 110, 100]) q3
        have f4 := lit_yes (l := [109, 97, 116, 99, 104, 101, 115]) q4
        have HN : Hid (W ≠ wNot) := q0
        have HV : Hid (wkind W x.dis = kOp) := wkind_op W x.dis (Or.inr (Or.inr (Or.inr (Or.inl q4))))
        clear q0 q1 q2 q3 q4 H4 c9
        go_wp2_with (go_at_call 34; refine (HF.out _).mono ?_; rintro e w5 ⟨rfl, h5⟩)
        go_ret
        exact Or.inr ⟨HN.out, rfl, by rw [HV.out]; exact h5⟩
      by_cases q5 : W = (⟨#[99, 111, 110, 116, 97, 105, 110, 115]⟩ : ByteArray)
      · have f0 := lit_no (l := [110, 111, 116]) q0
        have f1 := lit_no (l := [105, 110]) q1
        have f2 := lit_no (l := [111, 114]) q2
        have f3 := lit_no (l := [97, 110, 100]) q3
        have f4 := lit_no (l := [109, 97, 116, 99, 104, 101, 115]) q4
        have f5 := lit_yes (l := [99, 111, 110, 116, 97, 105, 110, 115]) q5
        have HN : Hid (W ≠ wNot) := q0
        have HV : Hid (wkind W x.dis = kOp) := wkind_op W x.dis (Or.inr (Or.inr (Or.inr (Or.inr (Or.inl q5)))))
        clear q0 q1 q2 q3 q4 q5 H4 c9
        go_wp2_with (go_at_call 34; refine (HF.out _).mono ?_; rintro e w5 ⟨rfl, h5⟩)
        go_ret
        exact Or.inr ⟨HN.out, rfl, by rw [HV.out]; exact h5⟩
      by_cases q6 : W = (⟨#[115, 116, 97, 114, 116, 115, 87, 105, 116, 104]⟩ : ByteArray)
      · have f0 := lit_no (l := [110, 111, 116]) q0
        have f1 := lit_no (l := [105, 110]) q1
        have f2 := lit_no (l := [111, 114]) q2
        have f3 := lit_no (l := [97, 110, 100]) q3
        have f4 := lit_no (l := [109, 97, 116, 99, 104, 101, 115]) q4
        have f5 := lit_no (l := [99, 111, 110, 116, 97, 105, 110, 115]) q5
        have f6 := lit_yes (l := [115, 116, 97, 114, 116, 115, 87, 105, 116, 104]) q6
        have HN : Hid (W ≠ wNot) := q0
        have HV : Hid (wkind W x.dis = kOp) := wkind_op W x.dis (Or.inr (Or.inr (Or.inr (Or.inr (Or.inr (Or.inl q6))))))
        clear q0 q1 q2 q3 q4 q5 q6 H4 c9
        go_wp2_with (go_at_call 34; refine (HF.out _).mono ?_; rintro e w5 ⟨rfl, h5⟩)
        go_ret
        exact Or.inr ⟨HN.out, rfl, by rw [HV.out]; exact h5⟩
      by_cases q7 : W = (⟨#[101, 110, 100, 115, 87, 105, 116, 104]⟩ : ByteArray)
      · have f0 := lit_no (l := [110, 111, 116]) q0
        have f1 := lit_no (l := [105, 110]) q1
        have f2 := lit_no (l := [111, 114]) q2
        have f3 := lit_no (l := [97, 110, 100]) q3
        have f4 := lit_no (l := [109, 97, 116, 99, 104, 101, 115]) q4
        have f5 := lit_no (l := [99, 111, 110, 116, 97, 105, 110, 115]) q5
        have f6 := lit_no (l := [115, 116, 97, 114, 116, 115, 87, 105, 116, 104]) q6
        have f7 := lit_yes (l := [101, 110, 100, 115, 87, 105, 116, 104]) q7
        have HN : Hid (W ≠ wNot) := q0
        have HV : Hid (wkind W x.dis = kOp) := wkind_op W x.dis (Or.inr (Or.inr (Or.inr (Or.inr (Or.inr (Or.inr (Or.inl q7)))))))
        clear q0 q1 q2 q3 q4 q5 q6 q7 H4 c9
        go_wp2_with (go_at_call 34; refine (HF.out _).mono ?_; rintro e w5 ⟨rfl, h5⟩)
        go_ret
        exact Or.inr ⟨HN.out, rfl, by rw [HV.out]; exact h5⟩
      by_cases q8 : W = (⟨#[108, 101, 116]⟩ : ByteArray)
      · have f0 := lit_no (l := [110, 111, 116]) q0
        have f1 := lit_no (l := [105, 110]) q1
        have f2 := lit_no (l := [111, 114]) q2
        have f3 := lit_no (l := [97, 110, 100]) q3
        have f4 := lit_no (l := [109, 97, 116, 99, 104, 101, 115]) q4
        have f5 := lit_no (l := [99, 111, 110, 116, 97, 105, 110, 115]) q5
        have f6 := lit_no (l := [115, 116, 97, 114, 116, 115, 87, 105, 116, 104]) q6
        have f7 := lit_no (l := [101, 110, 100, 115, 87, 105, 116, 104]) q7
        have f8 := lit_yes (l := [108, 101, 116]) q8
        have HN : Hid (W ≠ wNot) := q0
        have HV : Hid (wkind W x.dis = kOp) := wkind_op W x.dis (Or.inr (Or.inr (Or.inr (Or.inr (Or.inr (Or.inr (Or.inr (q8))))))))
        clear q0 q1 q2 q3 q4 q5 q6 q7 q8 H4 c9
        go_wp2_with (go_at_call 34; refine (HF.out _).mono ?_; rintro e w5 ⟨rfl, h5⟩)
        go_ret
        exact Or.inr ⟨HN.out, rfl, by rw [HV.out]; exact h5⟩
      by_cases q9 : W = (⟨#[105, 102]⟩ : ByteArray)
      · have f0 := lit_no (l := [110, 111, 116]) q0
        have f1 := lit_no (l := [105, 110]) q1
        have f2 := lit_no (l := [111, 114]) q2
        have f3 := lit_no (l := [97, 110, 100]) q3
        have f4 := lit_no (l := [109, 97, 116, 99, 104, 101, 115]) q4
        have f5 := lit_no (l := [99, 111, 110, 116, 97, 105, 110, 115]) q5
        have f6 := lit_no (l := [115, 116, 97, 114, 116, 115, 87, 105, 116, 104]) q6
        have f7 := lit_no (l := [101, 110, 100, 115, 87, 105, 116, 104]) q7
        have f8 := lit_no (l := [108, 101, 116]) q8
        have f9 := lit_yes (l := [105, 102]) q9
        have HN : Hid (W ≠ wNot) := q0
        have HV : Hid (wkind W x.dis = (if x.dis then kId else kOp)) := by
          show _ = _
          rw [q9]
          exact wkind_if x.dis
        clear q0 q1 q2 q3 q4 q5 q6 q7 q8 q9 H4
        obtain ⟨ds, hds⟩ : ∃ ds, x.dis = ds := ⟨_, rfl⟩
        have HS := Lib.hid hds
        rw [hds] at c9
        clear hds
        cases ds with
        | true =>
          have HV2 : Hid (wkind W x.dis = kId) := by
            show _ = _
            rw [HV.out, HS.out]
            rfl
          go_wp2_with (go_at_call 34; refine (HF.out _).mono ?_; rintro e w5 ⟨rfl, h5⟩)
          go_ret
          exact Or.inr ⟨HN.out, rfl, by rw [HV2.out]; exact h5⟩
        | false =>
          have HV2 : Hid (wkind W x.dis = kOp) := by
            show _ = _
            rw [HV.out, HS.out]
            rfl
          go_wp2_with (go_at_call 34; refine (HF.out _).mono ?_; rintro e w5 ⟨rfl, h5⟩)
          go_ret
          exact Or.inr ⟨HN.out, rfl, by rw [HV2.out]; exact h5⟩
      by_cases q10 : W = (⟨#[101, 108, 115, 101]⟩ : ByteArray)
      · have f0 := lit_no (l := [110, 111, 116]) q0
        have f1 := lit_no (l := [105, 110]) q1
        have f2 := lit_no (l := [111, 114]) q2
        have f3 := lit_no (l := [97, 110, 100]) q3
        have f4 := lit_no (l := [109, 97, 116, 99, 104, 101, 115]) q4
        have f5 := lit_no (l := [99, 111, 110, 116, 97, 105, 110, 115]) q5
        have f6 := lit_no (l := [115, 116, 97, 114, 116, 115, 87, 105, 116, 104]) q6
        have f7 := lit_no (l := [101, 110, 100, 115, 87, 105, 116, 104]) q7
        have f8 := lit_no (l := [108, 101, 116]) q8
        have f9 := lit_no (l := [105, 102]) q9
        have f10 := lit_yes (l := [101, 108, 115, 101]) q10
        have HN : Hid (W ≠ wNot) := q0
        have HV : Hid (wkind W x.dis = (if x.dis then kId else kOp)) := by
          show _ = _
          rw [q10]
          exact wkind_else x.dis
        clear q0 q1 q2 q3 q4 q5 q6 q7 q8 q9 q10 H4
        obtain ⟨ds, hds⟩ : ∃ ds, x.dis = ds := ⟨_, rfl⟩
        have HS := Lib.hid hds
        rw [hds] at c9
        clear hds
        cases ds with
        | true =>
          have HV2 : Hid (wkind W x.dis = kId) := by
            show _ = _
            rw [HV.out, HS.out]
            rfl
          go_wp2_with (go_at_call 34; refine (HF.out _).mono ?_; rintro e w5 ⟨rfl, h5⟩)
          go_ret
          exact Or.inr ⟨HN.out, rfl, by rw [HV2.out]; exact h5⟩
        | false =>
          have HV2 : Hid (wkind W x.dis = kOp) := by
            show _ = _
            rw [HV.out, HS.out]
            rfl
          go_wp2_with (go_at_call 34; refine (HF.out _).mono ?_; rintro e w5 ⟨rfl, h5⟩)
          go_ret
          exact Or.inr ⟨HN.out, rfl, by rw [HV2.out]; exact h5⟩
      have f0 := lit_no (l := [110, 111, 116]) q0
      have f1 := lit_no (l := [105, 110]) q1
      have f2 := lit_no (l := [111, 114]) q2
      have f3 := lit_no (l := [97, 110, 100]) q3
      have f4 := lit_no (l := [109, 97, 116, 99, 104, 101, 115]) q4
      have f5 := lit_no (l := [99, 111, 110, 116, 97, 105, 110, 115]) q5
      have f6 := lit_no (l := [115, 116, 97, 114, 116, 115, 87, 105, 116, 104]) q6
      have f7 := lit_no (l := [101, 110, 100, 115, 87, 105, 116, 104]) q7
      have f8 := lit_no (l := [108, 101, 116]) q8
      have f9 := lit_no (l := [105, 102]) q9
      have f10 := lit_no (l := [101, 108, 115, 101]) q10
      have HN : Hid (W ≠ wNot) := q0
      have HV : Hid (wkind W x.dis = kId) := wkind_id W x.dis q1 q2 q3 q4 q5 q6 q7 q8 q9 q10
      clear q0 q1 q2 q3 q4 q5 q6 q7 q8 q9 q10 H4 c9
      go_wp2_with (go_at_call 34; refine (HF.out _).mono ?_; rintro e w5 ⟨rfl, h5⟩)
      go_ret
      exact Or.inr ⟨HN.out, rfl, by rw [HV.out]; exact h5⟩

end Go.Proofs.YtdlkdojgbiahgaaGreatFmt.Lx
