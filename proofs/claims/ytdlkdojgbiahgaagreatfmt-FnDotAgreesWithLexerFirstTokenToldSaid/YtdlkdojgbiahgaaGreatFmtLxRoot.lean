/-
  The contract of root (the lexer's first state) before an ASCII letter, underscore or dollar sign, before a full stop, and at the end of the text. Conditions: lexer, ring and slots lie in new blocks, the tables are laid, the text has at most 2^30 bytes.
-/
import Derived.Test.YtdlkdojgbiahgaaGreatFmtLxNot
namespace Go.Proofs.YtdlkdojgbiahgaaGreatFmt.Lx
open Go.RowKit Go.Lib

def identV : Value := .func (.func 26) #[] #[]
def notV : Value := .func (.func 38) #[] #[]
def dotV : Value := .func (.func 23) #[] #[]
def numberV : Value := .func (.func 33) #[] #[]

/-- No rune of v is one of P's. -/
theorem has_out {v : ByteArray} {P : Nat → Bool} (h : (v.data.toList.all fun d => decide (d.toNat < 128) && !P d.toNat) = true) {c : Nat} (hc : P c = true) : has v c 0 = false := by
  have g : ∀ (d : Nat) (i : Nat), v.size - i = d → has v c i = false := by
    intro d
    induction d using Nat.strongRecOn with
    | _ d ih =>
      intro i hd
      by_cases k : i < v.size
      · have hb := bt_get v i k
        have := List.all_eq_true.1 h (v.data[i]'k) (Array.mem_toList_iff.2 (Array.getElem_mem k))
        rw [Bool.and_eq_true, decide_eq_true_eq, Bool.not_eq_true'] at this
        have hlt : bt v i < 128 := by rw [hb]; exact this.1
        have hne : dr v i ≠ c := by
          rw [(dec_ascii v i hlt).1, hb]
          intro e
          have h2 : P (v.data[i]'k).toNat = true := by
            have : (v[i]'k).toNat = (v.data[i]'k).toNat := rfl
            rw [← this, e]; exact hc
          rw [this.2] at h2
          cases h2
        rw [has_miss v c i k hne]
        have hw := dw_bounds v i k
        exact ih _ (by omega) _ rfl
      · exact has_end v c i k
  exact g _ 0 rfl

def s1 : ByteArray := ⟨#[40, 91, 123]⟩
def s2 : ByteArray := ⟨#[41, 93, 125]⟩
def s3 : ByteArray := ⟨#[44, 59, 37, 43, 45, 94]⟩
def s4 : ByteArray := ⟨#[38, 33, 61, 42, 60, 62]⟩
/-- ASCII word bytes and the full stop. -/
def an9 (c : Nat) : Bool := an8 c || c == 46

theorem nsp_tab : ((List.range 128).all fun c => !an9 c || !isSpaceZ (c : Int)) = true := by decide +kernel
theorem not_space {c : Nat} (h8 : c < 128) (h : an9 c = true) : isSpaceZ (c : Int) = false := by
  have := List.all_eq_true.1 nsp_tab c (List.mem_range.2 h8)
  rw [h] at this
  simpa using this

theorem isSpace_no (c : Nat) (w : World) (hT : Tabs w) (h8 : c < 128) (h : an9 c = true) :
    Calls Tryz.prog 56 #[.int .i32 (c : Int)] w fun e w' => e = .returned (.bool false) ∧ Below w.heap.size w w' := by
  have c1 := Tryz.unicode_IsSpace_any (c : Int) w (by omega) (by omega) hT.white
  rw [not_space h8 h] at c1
  go_enter Tryz.func56, Tryz.ntmps56
  go_wp2_with (fail)
  refine c1.mono ?_
  rintro e w1 ⟨rfl, h1⟩
  go_wp2
  go_ret
  exact ⟨rfl, h1⟩

theorem in_no {v : ByteArray} (hv : (v.data.toList.all fun d => decide (d.toNat < 128) && !an9 d.toNat) = true) (c : Nat) (w : World) (h8 : c < 128) (h : an9 c = true) :
    Calls Tryz.prog 49 #[.string v, .int .i32 (c : Int)] w fun e w' => e = .returned (.bool false) ∧ Below w.heap.size w w' := by
  have := contains_nat v c w (Or.inr ⟨by omega, by omega⟩)
  rw [has_out hv h] at this
  exact this

set_option maxRecDepth 100000 in
set_option maxHeartbeats 8000000 in
/-- root before an ASCII letter, underscore or dollar sign. -/
theorem root_word (B : Nat) (x : LS) (w0 : Base) (w : World) (L R b n : Nat) (l : List Tk) (p : Nat) (h : LQ B (x.at p p) w0 w L R b n l) (he : x.eof = false) (hp : p < x.s.size) (hs : x.s.size ≤ 1073741824) (ha : an8 (bt x.s p) = true) (hd : bt x.s p = 36 ∨ 65 ≤ bt x.s p) (hq : bt x.s p = 98 ∨ bt x.s p = 66 → (pk x.s (p + 1) == 39) = false ∧ (pk x.s (p + 1) == 34) = false) :
    Calls Tryz.prog 35 #[.pointer (some ⟨L, 0, none⟩)] w fun e w' => e = .returned identV ∧ LQ B (x.at p p) w0 w' L R b n l := by
  have h8 := an8_lt ha
  have hda := dec_ascii x.s p h8
  have hd1 : dr (x.at p p).s (x.at p p).eb = bt x.s p := hda.1
  have hd2 : dw (x.at p p).s (x.at p p).eb = 1 := hda.2
  have cn := next_LQ B (x.at p p) w0 w L R b n l h hp hs (by show p ≤ _; omega)
  rw [hd1, hd2] at cn
  have cb := fun W (hq : LQ B (x.at (p + 1) (p + 1)) w0 W L R b n l) => backup_ascii B x w0 W L R b n l p p hq he hp hs h8 (Nat.le_refl _)
  have cp := fun W (hq : LQ B (x.at (p + 1) (p + 1)) w0 W L R b n l) => peek_any B L (x.at (p + 1) (p + 1)) W hq.lx hq.anch
  have e1 : pk (x.at (p + 1) (p + 1)).s (x.at (p + 1) (p + 1)).eb = pk x.s (p + 1) := rfl
  rw [e1] at cp
  generalize pk x.s (p + 1) = k at *
  obtain ⟨c, hc⟩ : ∃ c, bt x.s p = c := ⟨_, rfl⟩
  rw [hc] at h8 ha hd hq cn
  have ha9 : an9 c = true := by unfold an9; rw [ha]; rfl
  have cs := fun W hT => isSpace_no c W hT h8 ha9
  have c1 := fun W => in_no (v := s1) rfl c W h8 ha9
  have c2 := fun W => in_no (v := s2) rfl c W h8 ha9
  have c3 := fun W => in_no (v := s3) rfl c W h8 ha9
  have c4 := fun W => in_no (v := s4) rfl c W h8 ha9
  have cu := fun W2 (hT : Tabs W2) => alnum_any (c : Int) W2 hT (by omega) (by omega)
  rw [anU_ascii h8, ha] at cu
  have HB := Lib.hid cb
  have HP := Lib.hid cp
  have HS := Lib.hid cs
  have HU := Lib.hid cu
  have H1 := Lib.hid c1
  have H2 := Lib.hid c2
  have H3 := Lib.hid c3
  have H4 := Lib.hid c4
  have ha2 := Lib.hid ha
  have h96 : c ≠ 96 := by
    rintro rfl
    exact absurd ha (by decide)
  clear cb cp cs cu c1 c2 c3 c4 hd1 hd2 hda e1 h hc ha9 hp hs he ha
  by_cases h36 : c = 36
  · subst h36
    clear hq hd h8
    go_enter Tryz.func35, Tryz.ntmps35
    go_wp2_with (first | (go_at_call 30; refine cn.mono ?_; rintro e w1 ⟨rfl, hq⟩) | (go_at_call 56; refine (HS.out _ hq.anch.tabs).mono ?_; rintro e w2 ⟨rfl, hb⟩; have hq := hq.below hb) | (go_at_call 50; refine (HP.out _ hq).mono ?_; rintro e w2 ⟨rfl, hb⟩; have hq := hq.below hb) | (go_at_call 49; (first | refine (H1.out _).mono ?_ | refine (H2.out _).mono ?_ | refine (H3.out _).mono ?_ | refine (H4.out _).mono ?_); rintro e w2 ⟨rfl, hb⟩; have hq := hq.below hb) | (go_at_call 36; refine (HU.out _ hq.anch.tabs).mono ?_; rintro e w2 ⟨rfl, hb⟩; have hq := hq.below hb) | (go_at_call 32; refine (HB.out _ hq).mono ?_; rintro e w3 ⟨rfl, hz⟩))
    exact bodyPost_ret (v := identV) (results_tmp (t := 2) Tryz.results35 _ _ _) rfl ⟨rfl, hz⟩
  by_cases h98 : c = 98
  · subst h98
    obtain ⟨k1, k2⟩ := hq (Or.inl rfl)
    clear hq hd h8 h36
    go_enter Tryz.func35, Tryz.ntmps35
    go_wp2_with (first | (go_at_call 30; refine cn.mono ?_; rintro e w1 ⟨rfl, hq⟩) | (go_at_call 56; refine (HS.out _ hq.anch.tabs).mono ?_; rintro e w2 ⟨rfl, hb⟩; have hq := hq.below hb) | (go_at_call 50; refine (HP.out _ hq).mono ?_; rintro e w2 ⟨rfl, hb⟩; have hq := hq.below hb) | (go_at_call 49; (first | refine (H1.out _).mono ?_ | refine (H2.out _).mono ?_ | refine (H3.out _).mono ?_ | refine (H4.out _).mono ?_); rintro e w2 ⟨rfl, hb⟩; have hq := hq.below hb) | (go_at_call 36; refine (HU.out _ hq.anch.tabs).mono ?_; rintro e w2 ⟨rfl, hb⟩; have hq := hq.below hb) | (go_at_call 32; refine (HB.out _ hq).mono ?_; rintro e w3 ⟨rfl, hz⟩))
    exact bodyPost_ret (v := identV) (results_tmp (t := 2) Tryz.results35 _ _ _) rfl ⟨rfl, hz⟩
  by_cases h66 : c = 66
  · subst h66
    obtain ⟨k1, k2⟩ := hq (Or.inr rfl)
    clear hq hd h8 h36 h98
    go_enter Tryz.func35, Tryz.ntmps35
    go_wp2_with (first | (go_at_call 30; refine cn.mono ?_; rintro e w1 ⟨rfl, hq⟩) | (go_at_call 56; refine (HS.out _ hq.anch.tabs).mono ?_; rintro e w2 ⟨rfl, hb⟩; have hq := hq.below hb) | (go_at_call 50; refine (HP.out _ hq).mono ?_; rintro e w2 ⟨rfl, hb⟩; have hq := hq.below hb) | (go_at_call 49; (first | refine (H1.out _).mono ?_ | refine (H2.out _).mono ?_ | refine (H3.out _).mono ?_ | refine (H4.out _).mono ?_); rintro e w2 ⟨rfl, hb⟩; have hq := hq.below hb) | (go_at_call 36; refine (HU.out _ hq.anch.tabs).mono ?_; rintro e w2 ⟨rfl, hb⟩; have hq := hq.below hb) | (go_at_call 32; refine (HB.out _ hq).mono ?_; rintro e w3 ⟨rfl, hz⟩))
    exact bodyPost_ret (v := identV) (results_tmp (t := 2) Tryz.results35 _ _ _) rfl ⟨rfl, hz⟩
  have h65 : 65 ≤ c := hd.resolve_left h36
  have g0 : ((c : Int) == -1) = false := by rw [beq_eq_false_iff_ne]; omega
  have g1 : ((c : Int) == 39) = false := by rw [beq_eq_false_iff_ne]; omega
  have g2 : ((c : Int) == 34) = false := by rw [beq_eq_false_iff_ne]; omega
  have g3 : ((c : Int) == 96) = false := by rw [beq_eq_false_iff_ne]; omega
  have g4 : ((c : Int) == 98) = false := by rw [beq_eq_false_iff_ne]; omega
  have g5 : ((c : Int) == 66) = false := by rw [beq_eq_false_iff_ne]; omega
  have g6 : ((c : Int) == 63) = false := by rw [beq_eq_false_iff_ne]; omega
  have g7 : ((c : Int) == 47) = false := by rw [beq_eq_false_iff_ne]; omega
  have g8 : ((c : Int) == 35) = false := by rw [beq_eq_false_iff_ne]; omega
  by_cases g90 : c = 124
  · exact absurd ha2.out (by rw [g90]; decide)
  have g9 : ((c : Int) == 124) = false := by rw [beq_eq_false_iff_ne]; omega
  have g10 : ((c : Int) == 58) = false := by rw [beq_eq_false_iff_ne]; omega
  have g11 : ((c : Int) == 46) = false := by rw [beq_eq_false_iff_ne]; omega
  have g20 : (48 : Int) ≤ (c : Int) := by omega
  have g21 : ¬ (c : Int) ≤ 57 := by omega
  clear hq hd h36 h98 h66 h65 h8
  go_enter Tryz.func35, Tryz.ntmps35
  go_wp2_with (first | (go_at_call 30; refine cn.mono ?_; rintro e w1 ⟨rfl, hq⟩) | (go_at_call 56; refine (HS.out _ hq.anch.tabs).mono ?_; rintro e w2 ⟨rfl, hb⟩; have hq := hq.below hb) | (go_at_call 50; refine (HP.out _ hq).mono ?_; rintro e w2 ⟨rfl, hb⟩; have hq := hq.below hb) | (go_at_call 49; (first | refine (H1.out _).mono ?_ | refine (H2.out _).mono ?_ | refine (H3.out _).mono ?_ | refine (H4.out _).mono ?_); rintro e w2 ⟨rfl, hb⟩; have hq := hq.below hb) | (go_at_call 36; refine (HU.out _ hq.anch.tabs).mono ?_; rintro e w2 ⟨rfl, hb⟩; have hq := hq.below hb) | (go_at_call 32; refine (HB.out _ hq).mono ?_; rintro e w3 ⟨rfl, hz⟩))
  exact bodyPost_ret (v := identV) (results_tmp (t := 2) Tryz.results35 _ _ _) rfl ⟨rfl, hz⟩

set_option maxRecDepth 100000 in
set_option maxHeartbeats 4000000 in
/-- root before a full stop. -/
theorem root_dot (B : Nat) (x : LS) (w0 : Base) (w : World) (L R b n : Nat) (l : List Tk) (p : Nat) (h : LQ B (x.at p p) w0 w L R b n l) (he : x.eof = false) (hp : p < x.s.size) (hs : x.s.size ≤ 1073741824) (ha : bt x.s p = 46) :
    Calls Tryz.prog 35 #[.pointer (some ⟨L, 0, none⟩)] w fun e w' => e = .returned dotV ∧ LQ B (x.at p p) w0 w' L R b n l := by
  have h8 : bt x.s p < 128 := by omega
  have hda := dec_ascii x.s p h8
  have hd1 : dr (x.at p p).s (x.at p p).eb = bt x.s p := hda.1
  have hd2 : dw (x.at p p).s (x.at p p).eb = 1 := hda.2
  have cn := next_LQ B (x.at p p) w0 w L R b n l h hp hs (by show p ≤ _; omega)
  rw [hd1, hd2] at cn
  have cb := fun W (hq : LQ B (x.at (p + 1) (p + 1)) w0 W L R b n l) => backup_ascii B x w0 W L R b n l p p hq he hp hs h8 (Nat.le_refl _)
  rw [ha] at cn
  have cs := fun W hT => isSpace_no 46 W hT (by omega) rfl
  have H1 := Lib.hid fun W => in_no (v := s1) rfl 46 W (by omega) rfl
  have H2 := Lib.hid fun W => in_no (v := s2) rfl 46 W (by omega) rfl
  have H3 := Lib.hid fun W => in_no (v := s3) rfl 46 W (by omega) rfl
  have H4 := Lib.hid fun W => in_no (v := s4) rfl 46 W (by omega) rfl
  have HB := Lib.hid cb
  have HS := Lib.hid cs
  clear cb cs hd1 hd2 hda h hp hs he ha h8
  go_enter Tryz.func35, Tryz.ntmps35
  go_wp2_with (first | (go_at_call 30; refine cn.mono ?_; rintro e w1 ⟨rfl, hq⟩) | (go_at_call 56; refine (HS.out _ hq.anch.tabs).mono ?_; rintro e w2 ⟨rfl, hb⟩; have hq := hq.below hb) | (go_at_call 49; (first | refine (H1.out _).mono ?_ | refine (H2.out _).mono ?_ | refine (H3.out _).mono ?_ | refine (H4.out _).mono ?_); rintro e w2 ⟨rfl, hb⟩; have hq := hq.below hb) | (go_at_call 32; refine (HB.out _ hq).mono ?_; rintro e w3 ⟨rfl, hz⟩))
  exact bodyPost_ret (v := dotV) (results_tmp (t := 2) Tryz.results35 _ _ _) rfl ⟨rfl, hz⟩

end Go.Proofs.YtdlkdojgbiahgaaGreatFmt.Lx
