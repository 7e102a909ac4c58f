/-
  next and backup over any text: backup never falls behind a place that follows an ASCII byte. Conditions: the lexer lies in its block, the tables are laid, the text has at most 2^30 bytes.
-/
import Derived.Test.YtdlkdojgbiahgaaGreatFmtLxNot
import Derived.Lib.TrimU
namespace Go.Proofs.YtdlkdojgbiahgaaGreatFmt.Lx
open Go.RowKit Go.Lib

theorem decodeL_ascii (l : List UInt8) (h0 : 0 < l.length) (h : (l.getD 0 0).toNat < 128) : (decodeL l).2 = 1 := by
  have hb : bt (⟨l.toArray⟩ : ByteArray) 0 < 128 := by
    rw [bt_get _ 0 (by show 0 < l.toArray.size; simpa using h0)]
    have : ((⟨l.toArray⟩ : ByteArray)[0]'(by show 0 < l.toArray.size; simpa using h0)) = l.getD 0 0 := by
      show l.toArray[0]'_ = _
      rw [List.getElem_toArray, List.getD_eq_getElem?_getD, List.getElem?_eq_getElem h0]
      rfl
    rw [this]; exact h
  exact (dec_ascii _ 0 hb).2
theorem decodeL_le (l : List UInt8) (h0 : 0 < l.length) : (decodeL l).2 ≤ 4 :=
  (dw_bounds (⟨l.toArray⟩ : ByteArray) 0 (by show 0 < l.toArray.size; simpa using h0)).2.2
theorem start_ascii {c : UInt8} (h : c.toNat < 128) : runeStartB c = true := by
  unfold runeStartB
  rw [bne_iff_ne]
  omega

theorem last_stay (l : List UInt8) (P : Nat) (h1 : 1 ≤ P) (h2 : P < l.length) (ha : (l.getD (P - 1) 0).toNat < 128) : P + (decodeLastL l).2 ≤ l.length := by
  by_cases hs : (decodeLastL l).2 = 1
  · omega
  have hne : l ≠ [] := by intro e; rw [e] at h2; simp at h2
  have key : (decodeL (l.drop (lastStart l))).2 = (decodeLastL l).2 ∧ lastStart l + (decodeL (l.drop (lastStart l))).2 = l.length := by
    unfold decodeLastL at hs ⊢
    rw [if_neg hne] at hs ⊢
    split at hs
    · exact absurd rfl hs
    · rename_i h128
      rw [if_neg h128]
      simp only at hs ⊢
      split at hs
      · rename_i hc
        rw [if_pos hc]
        exact ⟨rfl, hc⟩
      · exact absurd rfl hs
  obtain ⟨k1, k2⟩ := key
  have hw := decodeLastL_width l (by omega)
  have hdl : 0 < (l.drop (lastStart l)).length := by rw [List.length_drop]; omega
  have h4 := decodeL_le _ hdl
  have hP : P ≤ lastStart l := by
    have hneP : lastStart l ≠ P - 1 := by
      intro e
      have hh : ((l.drop (lastStart l)).getD 0 0).toNat < 128 := by
        rw [List.getD_eq_getElem?_getD, List.getElem?_drop, e, Nat.add_zero, ← List.getD_eq_getElem?_getD]
        exact ha
      have := decodeL_ascii _ hdl hh
      omega
    have hst := start_ascii ha
    have no : ∀ j, runeStartB (l.getD j 0) ≠ true → j ≠ P - 1 := fun j hj e => hj (e ▸ hst)
    unfold lastStart at hneP k2 ⊢
    simp only at hneP k2 ⊢
    split at k2
    · omega
    · rename_i a1
      rw [if_neg a1] at hneP ⊢
      split at k2
      · rename_i a2; rw [if_pos a2] at hneP ⊢; omega
      · rename_i a2
        have := no _ a2
        rw [if_neg a2] at hneP ⊢
        split at k2
        · omega
        · rename_i a3
          rw [if_neg a3] at hneP ⊢
          split at k2
          · rename_i a4; rw [if_pos a4] at hneP ⊢; omega
          · rename_i a4
            have := no _ a4
            rw [if_neg a4] at hneP ⊢
            split at k2
            · omega
            · rename_i a5
              rw [if_neg a5] at hneP ⊢
              split at k2
              · rename_i a6; rw [if_pos a6] at hneP ⊢; omega
              · rename_i a6
                have := no _ a6
                rw [if_neg a6] at hneP ⊢
                split at k2
                · omega
                · rename_i a7
                  rw [if_neg a7] at hneP ⊢
                  unfold lastStart at h4 hdl
                  simp only at h4 hdl
                  rw [if_neg a1, if_neg a2, if_neg a3, if_neg a4, if_neg a5, if_neg a6, if_neg a7] at h4 hdl
                  omega
  omega

/-- From world w0 on nothing old but block L has changed; the lexer's end stands at byte m, rune q. -/
def Sg (B L : Nat) (x : LS) (w0 w : World) (m q : Nat) : Prop := Ch [L] w0 w ∧ Anch B w ∧ LX 60 w L (x.at m q)
theorem Sg.below {B L : Nat} {x : LS} {w0 w w' : World} {m q : Nat} (h : Sg B L x w0 w m q) (hb : Below w.heap.size w w') : Sg B L x w0 w' m q :=
  ⟨h.1.trans (Ch.of_below hb), h.2.1.below hb, h.2.2.below hb⟩
theorem nextG (B L : Nat) (x : LS) (w0 w : World) (m q : Nat) (h : Sg B L x w0 w m q) (hB : B ≤ L) (hs : x.s.size ≤ 1073741824) (hm : m < x.s.size) (hq : q ≤ 1073741824) :
    Calls Tryz.prog 30 #[.pointer (some ⟨L, 0, none⟩)] w fun e w' => e = .returned (.int .i32 (dr x.s m : Int)) ∧ Sg B L x w0 w' (m + dw x.s m) (q + 1) := by
  refine (next_yes B L (x.at m q) w h.2.2 h.2.1 hm hs hq).mono ?_
  rintro e w' ⟨rfl, hc, hx⟩
  exact ⟨rfl, h.1.trans hc, h.2.1.ch1 hc hB, hx⟩
/-- Behind the rune that ends a word. -/
def BkG (B L P : Nat) (x : LS) (w0 w : World) : Prop :=
  (∃ E q, P < E ∧ E ≤ x.s.size ∧ q ≤ 1073741824 ∧ Sg B L x w0 w E (q + 1)) ∨ (∃ m q, P ≤ m ∧ m ≤ x.s.size ∧ q ≤ 1073741824 ∧ Ch [L] w0 w ∧ Anch B w ∧ LX 60 w L { x.at m q with eof := true })
theorem BkG.below {B L P : Nat} {x : LS} {w0 w w' : World} (h : BkG B L P x w0 w) (hb : Below w.heap.size w w') : BkG B L P x w0 w' := by
  rcases h with ⟨E, q, h1, h2, h3, h4⟩ | ⟨m, q, h1, h2, h3, h4, h5, h6⟩
  · exact Or.inl ⟨E, q, h1, h2, h3, h4.below hb⟩
  · exact Or.inr ⟨m, q, h1, h2, h3, h4.trans (Ch.of_below hb), h5.below hb, h6.below hb⟩
theorem BkG.tabs {B L P : Nat} {x : LS} {w0 w : World} (h : BkG B L P x w0 w) : Tabs w := by
  rcases h with ⟨E, q, h1, h2, h3, h4⟩ | ⟨m, q, h1, h2, h3, h4, h5, h6⟩
  · exact h4.2.1.tabs
  · exact h5.tabs
theorem next_stopG (B L P : Nat) (x : LS) (w0 w : World) (m q : Nat) (h : Sg B L x w0 w m q) (hB : B ≤ L) (hs : x.s.size ≤ 1073741824) (hP : P ≤ m) (hm : m ≤ x.s.size) (hq : q ≤ 1073741824) (hE : m < x.s.size → anU (dr x.s m : Int) = false) :
    Calls Tryz.prog 30 #[.pointer (some ⟨L, 0, none⟩)] w fun e w' => ∃ r : Int, e = .returned (.int .i32 r) ∧ anU r = false ∧ -2147483648 ≤ r ∧ r ≤ 2147483647 ∧ BkG B L P x w0 w' := by
  by_cases hlt : m < x.s.size
  · refine (nextG B L x w0 w m q h hB hs hlt hq).mono ?_
    rintro e w' ⟨rfl, h1⟩
    have hd := dr_le x.s m
    have hw := dw_bounds x.s m hlt
    exact ⟨_, rfl, hE hlt, by omega, by omega, Or.inl ⟨_, q, by omega, hw.2.1, hq, h1⟩⟩
  · refine (next_end B L (x.at m q) w h.2.2 h.2.1 (by show x.s.size ≤ m; omega)).mono ?_
    rintro e w' ⟨rfl, hc, hx⟩
    exact ⟨_, rfl, anU_eof, by omega, by omega, Or.inr ⟨m, q, hP, hm, hq, h.1.trans hc, h.2.1.ch1 hc hB, hx⟩⟩

set_option maxHeartbeats 1000000 in
theorem backupG (B L P : Nat) (x : LS) (w0 w : World) (h : BkG B L P x w0 w) (hB : B ≤ L) (hs : x.s.size ≤ 1073741824) (he : x.eof = false) (hP1 : 1 ≤ P) (hPa : bt x.s (P - 1) < 128) :
    Calls Tryz.prog 32 #[.pointer (some ⟨L, 0, none⟩)] w fun e w' => e = .returned (.tuple #[]) ∧ ∃ m q, P ≤ m ∧ m ≤ x.s.size ∧ q ≤ 1073741824 ∧ Sg B L x w0 w' m q := by
  rcases h with ⟨E, q, hPE, hEs, hq, h⟩ | ⟨m, q, hP, hm, hq, h1, h2, h3⟩
  · have hl := h.2.2
    have ha := h.2.1
    have HC := Lib.hid h.1
    have c8 := hl.c8
    have c7 := hl.c7
    simp only [LS.at] at c8 c7
    rw [he] at c8
    have hlen : (x.s.extract 0 E).data.toList.length = E := size_take x.s E hEs
    have hst := last_stay (x.s.extract 0 E).data.toList P hP1 (by rw [hlen]; exact hPE) (by
      have hb : bt (x.s.extract 0 E) (P - 1) = bt x.s (P - 1) := bt_take x.s E (P - 1) (by omega) hEs
      rw [← hb, bt_get _ (P - 1) (by rw [size_take x.s E hEs]; omega)] at hPa
      have : (x.s.extract 0 E)[P - 1]'(by rw [size_take x.s E hEs]; omega) = (x.s.extract 0 E).data.toList.getD (P - 1) 0 := by
        show (x.s.extract 0 E).data[P - 1]'_ = _
        rw [List.getD_eq_getElem?_getD, List.getElem?_eq_getElem (by rw [hlen]; omega), Array.getElem_toList]
        rfl
      rw [← this]; exact hPa)
    rw [hlen] at hst
    have cD := fun W (hT : Tabs W) => Tryz.utf8_DecodeLastRuneInString (x.s.extract 0 E) W (by rw [size_take x.s E hEs]; omega) hT.utf
    generalize hrz : Lib.decodeLastL (x.s.extract 0 E).data.toList = rz at hst cD
    obtain ⟨r, z⟩ := rz
    simp only at hst cD
    obtain ⟨E2, hE2⟩ : ∃ E2, E - z = E2 := ⟨_, rfl⟩
    have hPE2 : P ≤ E2 := by omega
    have hE2s : E2 ≤ x.s.size := by omega
    have hsub : (E : Int) - (z : Int) = (E2 : Int) := by omega
    have HD := Lib.hid cD
    have c72 : w.cell? ⟨L, 7, none⟩ = some (.int .i64 ((q + 1 : Nat) : Int)) := hl.c7
    have hEz : (E : Int) ≤ (x.s.size : Int) := by omega
    have hE3 : E ≤ x.s.size := hEs
    have hE2z : (E2 : Int) ≤ 1073741824 := by omega
    have hE20 : (0 : Int) ≤ (E2 : Int) := by omega
    have hpq : (q : Int) ≤ 1073741824 := by omega
    have hq0 : (0 : Int) < (q : Int) + 1 := by omega
    have HG := Lib.hid (show P ≤ E2 ∧ E2 ≤ x.s.size ∧ q ≤ 1073741824 from ⟨hPE2, hE2s, hq⟩)
    clear h cD he hrz hst hlen hPa hP1 hE2 hPE2 hE2s hq hPE c7
    go_enter Tryz.func32, Tryz.ntmps32
    go_wp2_with (fail)
    go_region_held3 (fun w' => w'.cell? ⟨L, 1, none⟩ = some (.string x.s) ∧ w'.cell? ⟨L, 6, none⟩ = some (.int .i64 (E : Int)) ∧ Hold B L (x.at E (q + 1)) w w')
      (first | exact (Hold.start hl ha).drew.s16 | exact (Hold.step ‹_ ∧ _ ∧ Hold _ _ _ _ _›.2.2 hb).s16)
      (first | (go_at_call 41; refine (src_String x.s _).mono ?_; rintro e w' ⟨rfl, hb⟩) | (go_at_call 51; refine (HD.out _ (‹_ ∧ _ ∧ Hold _ _ _ _ _›).2.2.anch.tabs).mono ?_; rintro e w' ⟨rfl, hb⟩))
    obtain ⟨_, _, hG⟩ := (‹_ ∧ _ ∧ Hold _ _ _ _ _›)
    have d6 := hG.lx.c6; have d7 := hG.lx.c7; have f6 := hG.lx.f 6; have f7 := hG.lx.f 7
    simp only [LS.at] at d6 d7
    go_wp2
    go_end0
    have hx := (hG.lx.s6 E2).s7 q
    have hc := ((Ch.of_below (S := [L]) hG.bel).setCell (p := ⟨L, 6, none⟩) (Or.inl (by simp)) (.int .i64 (E2 : Int))).setCell (p := ⟨L, 7, none⟩) (Or.inl (by simp)) (.int .i64 (q : Int))
    exact ⟨rfl, E2, q, HG.out.1, HG.out.2.1, HG.out.2.2, HC.out.trans hc, ha.ch1 hc hB, hx⟩
  · have c8 := h3.c8
    simp only at c8
    have f8 := h3.f 8
    have HX := Lib.hid h3
    have HG := Lib.hid (show P ≤ m ∧ m ≤ x.s.size ∧ q ≤ 1073741824 from ⟨hP, hm, hq⟩)
    clear h3 hP hm hq
    go_enter Tryz.func32, Tryz.ntmps32
    go_wp2
    go_end0
    have hc := (Ch.refl [L] w).setCell (p := ⟨L, 8, none⟩) (Or.inl (by simp)) (.bool false)
    refine ⟨rfl, m, HG.out.1, HG.out.2.1, q, HG.out.2.2, h1.trans hc, h2.ch1 hc hB, ?_⟩
    have e1 : ({ ({ x.at m q with eof := true } : LS) with eof := false } : LS) = x.at m q := by
      cases x; simp only [LS.at] at he ⊢; subst he; rfl
    have := HX.out.s8 false
    rw [e1] at this
    exact this

end Go.Proofs.YtdlkdojgbiahgaaGreatFmt.Lx
