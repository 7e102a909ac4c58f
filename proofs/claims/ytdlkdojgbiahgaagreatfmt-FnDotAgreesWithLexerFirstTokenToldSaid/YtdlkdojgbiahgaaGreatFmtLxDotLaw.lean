/-
  The walk of FnDotAgreesWithLexerFirstToken: it returns true for every input. Conditions: the tables are laid; fmt's text is told by a function F (whatever it gives).
-/
import Derived.Test.YtdlkdojgbiahgaaGreatFmtLxDotBad
import Derived.Test.YtdlkdojgbiahgaaGreatFmtLxZZDot
import Derived.BigQuiet
namespace Go.Proofs.YtdlkdojgbiahgaaGreatFmt.Lx
open Go.RowKit Go.Lib
open Go.Extern.Stop Go.Stop Go.Extern

theorem dsame_yes (t : Tk) (w : World) : Calls Tryz.prog 15 #[t.val, t.val] w fun e w' => e = .returned (.bool true) ∧ Below w.heap.size w w' := by
  unfold Tk.val
  go_enter Tryz.func15, Tryz.ntmps15
  go_wp2
  go_ret
  exact ⟨rfl, ((Below.refl _ _).alloc (Nat.le_refl _) _).alloc (by simp) _⟩
theorem dbytes_ok (s : ByteArray) (w : World) (h : s.size ≤ 1048576) : Calls Tryz.prog 12 #[.string s] w fun e w' => e = .returned (.bool true) ∧ w = w' := by
  have h1 : ¬ (1048576 < (s.size : Int)) := by omega
  go_enter Tryz.func12, Tryz.ntmps12
  go_wp2
  go_ret
  exact ⟨rfl, rfl⟩
theorem dbytes_no (s : ByteArray) (w : World) (h : ¬ s.size ≤ 1048576) : Calls Tryz.prog 12 #[.string s] w fun e w' => e = .returned (.bool false) ∧ w = w' := by
  have h1 : 1048576 < (s.size : Int) := by omega
  go_enter Tryz.func12, Tryz.ntmps12
  go_wp2
  go_ret
  exact ⟨rfl, rfl⟩

def FnD (s : ByteArray) (w : World) : Prop := Calls Tryz.prog 4 #[.string s] w fun e w' => e = .returned (.bool true) ∧ Below w.heap.size w w'

theorem dot_big (s : ByteArray) (w : World) (h : ¬ s.size ≤ 65536) : FnD s w := by
  unfold FnD
  have h2 : 65536 < (s.size : Int) := by omega
  by_cases hb : s.size ≤ 1048576
  · have cb := fun W => dbytes_ok s W hb
    clear hb
    go_enter Tryz.func4, Tryz.ntmps4
    go_wp2_with (go_at_call 12; refine (cb _).mono ?_; rintro e w1 ⟨rfl, rfl⟩)
    go_ret
    exact ⟨rfl, Below.refl _ _⟩
  · have cb := fun W => dbytes_no s W hb
    clear hb
    go_enter Tryz.func4, Tryz.ntmps4
    go_wp2_with (go_at_call 12; refine (cb _).mono ?_; rintro e w1 ⟨rfl, rfl⟩)
    go_ret
    exact ⟨rfl, Below.refl _ _⟩

theorem dot_out (s : ByteArray) (w : World) (h : s.size ≤ 65536) (hno : s.size = 0 ∨ bt s 0 ≠ 46) : FnD s w := by
  unfold FnD
  have cb := fun W => dbytes_ok s W (by omega)
  have h1 : ¬ (65536 < (s.size : Int)) := by omega
  by_cases h0 : s.size = 0
  · have hz : ((s.size : Int) == 0) = true := by rw [beq_iff_eq]; omega
    clear h h0 hno
    go_enter Tryz.func4, Tryz.ntmps4
    go_wp2_with (go_at_call 12; refine (cb _).mono ?_; rintro e w1 ⟨rfl, rfl⟩)
    go_ret
    exact ⟨rfl, Below.refl _ _⟩
  have hp : 0 < s.size := by omega
  have hpz : (0 : Int) < (s.size : Int) := by omega
  have hz : ((s.size : Int) == 0) = false := by rw [beq_eq_false_iff_ne]; omega
  have b0 : bt s 0 = (s[0]'hp).toNat := bt_get s 0 hp
  generalize hx0 : s[0]'hp = x0 at b0
  have hx : ((x0.toNat : Int) != 46) = true := by
    rw [bne_iff_ne]
    have := hno.resolve_left h0
    omega
  clear h h0 hno b0
  go_enter Tryz.func4, Tryz.ntmps4
  go_wp2_with (go_at_call 12; refine (cb _).mono ?_; rintro e w1 ⟨rfl, rfl⟩)
  go_ret
  exact ⟨rfl, Below.refl _ _⟩

set_option maxRecDepth 100000 in
set_option maxHeartbeats 4000000 in
/-- dot's own token. -/
theorem dot_tok (s : ByteArray) (w : World) (hT : Tabs w) (h : s.size ≤ 65536) (hp : 0 < s.size) (h46 : bt s 0 = 46) (ha : acc s DD 1 = false) : FnD s w := by
  have hE := dE_le s 0 hp
  have HF := Lib.hid fun W hW => zzFirst_any s W ⟨0, dE s 0, kOp, s.extract 0 (dE s 0)⟩ .nilIface true (Or.inl ⟨rfl, rfl⟩) hW (fun W0 W1 L R hq => first_dot W0.heap.size s (.pointer (some ⟨R, 0, none⟩)) W0 W1 L R _ hq hp h46 (by omega) ha)
  have HD := Lib.hid fun W hW => zzDot_one s W (dE s 0) ⟨0, dE s 0, kOp, s.extract 0 (dE s 0)⟩ (by omega) hW (fun W0 W1 L R hq => dot_no W0.heap.size (LS.rest s (.pointer (some ⟨R, 0, none⟩)) rootV 0 false false) W0 W1 L R 0 0 _ 0 hq (by omega) (Nat.le_refl _) hp (by show s.size ≤ _; omega) h46 ha)
  have HT := Lib.hid hT
  obtain ⟨Wd, hWd⟩ : ∃ Wd, s.extract 0 (dE s 0) = Wd := ⟨_, rfl⟩
  rw [hWd] at HF HD
  generalize dE s 0 = E at *
  unfold FnD
  have cb := fun W => dbytes_ok s W (by omega)
  have h1 : ¬ (65536 < (s.size : Int)) := by omega
  have hpz : (0 : Int) < (s.size : Int) := by omega
  have hz : ((s.size : Int) == 0) = false := by rw [beq_eq_false_iff_ne]; omega
  have b0 : bt s 0 = (s[0]'hp).toNat := bt_get s 0 hp
  generalize hx0 : s[0]'hp = x0 at b0
  have hx : ((x0.toNat : Int) != 46) = false := by
    rw [bne_eq_false_iff_eq]
    omega
  clear hT h46 ha h b0 hE hWd
  go_enter Tryz.func4, Tryz.ntmps4
  go_wp2_with (go_at_call 12; refine (cb _).mono ?_; rintro e w1 ⟨rfl, rfl⟩)
  have c4 := HF.out _ HT.out
  clear cb HF
  refine c4.mono ?_
  rintro e w4 ⟨rfl, hb4⟩
  clear c4
  unfold Tk.val
  go_wp2_with (fail)
  generalize hX : w4.alloc _ = X
  obtain ⟨N, hN⟩ : ∃ N, w4.heap.size = N := ⟨_, rfl⟩
  have hold : HoldT w X N (0) ((E : Int)) kOp Wd := by
    refine ⟨by rw [← hX]; exact hb4.alloc hb4.size _, ?_⟩
    rw [← hX, ← hN]
    exact ⟨_, alloc_new w4 _⟩
  rw [hN]
  have ci := HD.out X (HT.out.below hold.1)
  clear hX hN hb4 HD HT
  refine ci.mono ?_
  rintro e w5 ⟨rfl, hb5⟩
  have hold2 := hold.step hb5
  clear hold hb5 ci
  obtain ⟨k0, k1, k2, k3, _⟩ := hold2.all
  have HH := Lib.hid hold2.1
  have hsz : N < w5.heap.size := block_lt hold2.2.choose_spec
  clear hold2
  have cs := fun W2 => dsame_yes ⟨0, E, kOp, Wd⟩ W2
  unfold Tk.val at cs ⊢
  simp only at cs
  go_wp2_with (go_at_call 15; refine (cs _).mono ?_; rintro e w6 ⟨rfl, hb6⟩)
  go_ret
  exact ⟨rfl, (HH.out.alloc HH.out.size _).trans (hb6.mono (HH.out.alloc HH.out.size _).size)⟩

set_option maxRecDepth 100000 in
set_option maxHeartbeats 4000000 in
/-- A refused numeral. -/
theorem dot_refused (F : Interp) (s : ByteArray) (w : World) (hF : F.answers w.tape) (hT : Tabs w) (h : s.size ≤ 65536) (hp : 0 < s.size) (h46 : bt s 0 = 46) (ha : acc s DD 1 = true) (hok : okN s 1 = false) : FnD s w := by
  have HF := Lib.hid fun W (hW : Tabs W) (ht : W.tape = w.tape) => zzFirst_bad s W hW (fun W0 W1 L R htp hq => first_bad F W0.heap.size s (.pointer (some ⟨R, 0, none⟩)) W0 W1 L R _ (by rw [htp, ht]; exact hF) hq hp h46 (by omega) ha hok)
  have HD := Lib.hid fun W hW => zzDot_none s W 1 (by omega) hW (fun W0 W1 L R hq => dot_yes W0.heap.size (LS.rest s (.pointer (some ⟨R, 0, none⟩)) rootV 0 false false) W0 W1 L R 0 0 _ 0 hq rfl hp (by show s.size ≤ _; omega) h46 ha)
  have HT := Lib.hid hT
  unfold FnD
  have cb := fun W => dbytes_ok s W (by omega)
  have h1 : ¬ (65536 < (s.size : Int)) := by omega
  have hpz : (0 : Int) < (s.size : Int) := by omega
  have hz : ((s.size : Int) == 0) = false := by rw [beq_eq_false_iff_ne]; omega
  have b0 : bt s 0 = (s[0]'hp).toNat := bt_get s 0 hp
  generalize hx0 : s[0]'hp = x0 at b0
  have hx : ((x0.toNat : Int) != 46) = false := by
    rw [bne_eq_false_iff_eq]
    omega
  clear hT h46 ha h b0 hok
  go_enter Tryz.func4, Tryz.ntmps4
  go_wp2_with (go_at_call 12; refine (cb _).mono ?_; rintro e w1 ⟨rfl, rfl⟩)
  have c4 := HF.out _ HT.out rfl
  clear cb HF
  refine c4.mono ?_
  rintro e w4 ⟨rfl, hb4⟩
  clear c4
  unfold Tk.val Tk.none
  go_wp2_with (fail)
  generalize hX : w4.alloc _ = X
  obtain ⟨N, hN⟩ : ∃ N, w4.heap.size = N := ⟨_, rfl⟩
  have hold : HoldT w X N (0) (0) ⟨#[]⟩ ⟨#[]⟩ := by
    refine ⟨by rw [← hX]; exact hb4.alloc hb4.size _, ?_⟩
    rw [← hX, ← hN]
    exact ⟨_, alloc_new w4 _⟩
  rw [hN]
  have ci := HD.out X (HT.out.below hold.1)
  clear hX hN hb4 HD HT
  refine ci.mono ?_
  rintro e w5 ⟨rfl, hb5⟩
  have hold2 := hold.step hb5
  clear hold hb5 ci
  obtain ⟨k0, k1, k2, k3, _⟩ := hold2.all
  have HH := Lib.hid hold2.1
  have hsz : N < w5.heap.size := block_lt hold2.2.choose_spec
  clear hold2
  unfold Tk.val Tk.none
  go_wp2
  go_ret
  exact ⟨rfl, HH.out.alloc HH.out.size _⟩

set_option maxRecDepth 100000 in
set_option maxHeartbeats 8000000 in
/-- A number. -/
theorem dot_num (s : ByteArray) (w : World) (hT : Tabs w) (h : s.size ≤ 65536) (hp : 0 < s.size) (h46 : bt s 0 = 46) (ha : acc s DD 1 = true) (hok : okN s 1 = true) : FnD s w := by
  have hlt := acc_lt ha
  have hE2 := eN_digit ha
  have hEs : eN s 1 ≤ s.size := by
    have hi := iP_le s 1 (by omega)
    have hf := fP_le s 1 (by omega)
    have hx := xP_le s (pD s 1) (fP s 1) hf.2
    unfold eN
    cases dT s 1 with
    | true => exact hi.2
    | false => simp only [cond_false]; unfold nP; omega
  have HF := Lib.hid fun W hW => zzFirst_any s W ⟨0, eN s 1, kNum, s.extract 0 (eN s 1)⟩ .nilIface true (Or.inl ⟨rfl, rfl⟩) hW (fun W0 W1 L R hq => first_num W0.heap.size s (.pointer (some ⟨R, 0, none⟩)) W0 W1 L R _ hq hp h46 (by omega) ha hok)
  have HD := Lib.hid fun W hW => zzDot_none s W 1 (by omega) hW (fun W0 W1 L R hq => dot_yes W0.heap.size (LS.rest s (.pointer (some ⟨R, 0, none⟩)) rootV 0 false false) W0 W1 L R 0 0 _ 0 hq rfl hp (by show s.size ≤ _; omega) h46 ha)
  have HT := Lib.hid hT
  generalize eN s 1 = E at *
  obtain ⟨Wd, hWd⟩ : ∃ Wd, s.extract 0 E = Wd := ⟨_, rfl⟩
  rw [hWd] at HF
  have hws : Wd.size = E := by rw [← hWd]; exact size_take s E hEs
  have hpre : Wd.extract 0 2 = s.extract 0 2 := by
    rw [← hWd]
    apply ByteArray.ext
    rw [ByteArray.data_extract, ByteArray.data_extract, ByteArray.data_extract]
    apply Array.ext'
    simp only [Array.toList_extract, List.extract_eq_take_drop, List.drop_zero, Nat.sub_zero, List.take_take]
    rw [Nat.min_eq_left (by omega)]
  have kk : (kNum.toList == [78, 117, 109, 98, 101, 114]) = true := lit_yes (l := [78, 117, 109, 98, 101, 114]) rfl
  have e2 : (2 : Int) ≤ (E : Int) := by omega
  have e3 : (E : Int) ≤ (s.size : Int) := by omega
  have e4 : (2 : Int) ≤ (s.size : Int) := by omega
  unfold FnD
  have cb := fun W => dbytes_ok s W (by omega)
  have h1 : ¬ (65536 < (s.size : Int)) := by omega
  have hpz : (0 : Int) < (s.size : Int) := by omega
  have hz : ((s.size : Int) == 0) = false := by rw [beq_eq_false_iff_ne]; omega
  have b0 : bt s 0 = (s[0]'hp).toNat := bt_get s 0 hp
  generalize hx0 : s[0]'hp = x0 at b0
  have hx : ((x0.toNat : Int) != 46) = false := by
    rw [bne_eq_false_iff_eq]
    omega
  clear hT h46 ha h b0 hok hE2 hEs hlt
  go_enter Tryz.func4, Tryz.ntmps4
  go_wp2_with (go_at_call 12; refine (cb _).mono ?_; rintro e w1 ⟨rfl, rfl⟩)
  have c4 := HF.out _ HT.out
  clear cb HF
  refine c4.mono ?_
  rintro e w4 ⟨rfl, hb4⟩
  clear c4
  unfold Tk.val
  go_wp2_with (fail)
  generalize hX : w4.alloc _ = X
  obtain ⟨N, hN⟩ : ∃ N, w4.heap.size = N := ⟨_, rfl⟩
  have hold : HoldT w X N (0) ((E : Int)) kNum Wd := by
    refine ⟨by rw [← hX]; exact hb4.alloc hb4.size _, ?_⟩
    rw [← hX, ← hN]
    exact ⟨_, alloc_new w4 _⟩
  rw [hN]
  have ci := HD.out X (HT.out.below hold.1)
  clear hX hN hb4 HD HT
  refine ci.mono ?_
  rintro e w5 ⟨rfl, hb5⟩
  have hold2 := hold.step hb5
  clear hold hb5 ci
  obtain ⟨k0, k1, k2, k3, _⟩ := hold2.all
  have HH := Lib.hid hold2.1
  have hsz : N < w5.heap.size := block_lt hold2.2.choose_spec
  clear hold2
  unfold Tk.val Tk.none
  go_wp2_with (fail)
  go_quiet (fail)
  go_wp2
  have hb := HH.out.alloc HH.out.size (.cells #[.int .i64 0, .int .i64 0, .string ByteArray.empty, .string ByteArray.empty] 33)
  exact bodyPost_ret (v := .bool true) (results_tmp (t := 2) Tryz.results4 _ _ _) rfl ⟨rfl, hb.os, hb.tape, hb.output, hb.size, hb.block⟩

theorem dot_walk (F : Interp) (s : ByteArray) (w : World) (hF : F.answers w.tape) (hT : Tabs w) : FnD s w := by
  by_cases h : s.size ≤ 65536
  · by_cases h0 : s.size = 0
    · exact dot_out s w h (Or.inl h0)
    by_cases h46 : bt s 0 = 46
    · have hp : 0 < s.size := by omega
      cases ha : acc s DD 1 with
      | false => exact dot_tok s w hT h hp h46 ha
      | true =>
        cases hok : okN s 1 with
        | true => exact dot_num s w hT h hp h46 ha hok
        | false => exact dot_refused F s w hF hT h hp h46 ha hok
    · exact dot_out s w h (Or.inr h46)
  · exact dot_big s w h

end Go.Proofs.YtdlkdojgbiahgaaGreatFmt.Lx
