/-
  The walk of FnNotCaseTable: it returns true for every input. Condition: the tables are laid.
-/
import Derived.Test.YtdlkdojgbiahgaaFmtLxZZNot
import Derived.Deep.CutBlock
import Derived.Deep.DeepCutAuto
namespace Go.Proofs.YtdlkdojgbiahgaaFmt.Lx
open Go.RowKit Go.Lib

theorem nbytes_ok (s : ByteArray) (w : World) (h : s.size ≤ 1048576) : Calls Tryf.prog 24 #[.string s] w fun e w' => e = .returned (.bool true) ∧ w = w' := by
  have h1 : ¬ (1048576 < (s.size : Int)) := by omega
  go_enter Tryf.func24, Tryf.ntmps24
  go_wp2
  go_ret
  exact ⟨rfl, rfl⟩
theorem nbytes_no (s : ByteArray) (w : World) (h : ¬ s.size ≤ 1048576) : Calls Tryf.prog 24 #[.string s] w fun e w' => e = .returned (.bool false) ∧ w = w' := by
  have h1 : 1048576 < (s.size : Int) := by omega
  go_enter Tryf.func24, Tryf.ntmps24
  go_wp2
  go_ret
  exact ⟨rfl, rfl⟩

theorem has_sp (r : Nat) : has sp r 0 = (r == 32) := by
  have h0 : bt sp 0 = 32 := rfl
  have hd := dec_ascii sp 0 (by rw [h0]; decide)
  rw [has_step sp r 0 (by decide), hd.1, hd.2, h0, has_end sp r _ (by decide), Bool.or_false]
  rw [Bool.eq_iff_iff]; simp only [beq_iff_eq]; omega
theorem acc_sp {s : ByteArray} {p : Nat} (hp : p < s.size) : acc s sp p = (bt s p == 32) := by
  unfold acc
  rw [decide_eq_true hp, Bool.true_and, has_sp, Bool.eq_iff_iff]
  simp only [beq_iff_eq]
  constructor
  · intro k; have := (dr_low s p (by omega)).1; omega
  · intro k; have := (dec_ascii s p (by omega)).1; omega
theorem run_sp_yes {s : ByteArray} {p : Nat} (hp : p < s.size) (h : bt s p = 32) : run s sp p = run s sp (p + 1) := by
  have e : acc s sp p = true := by rw [acc_sp hp, h]; rfl
  rw [run_yes e, acc_w asc_sp e]
theorem run_sp_no {s : ByteArray} {p : Nat} (hp : p < s.size) (h : ¬ bt s p = 32) : run s sp p = p := by
  have e : acc s sp p = false := by rw [acc_sp hp, beq_eq_false_iff_ne]; exact h
  exact run_no e
theorem run_end {s v : ByteArray} {p : Nat} (h : ¬ p < s.size) : run s v p = p := run_no (by unfold acc; rw [decide_eq_false h, Bool.false_and])

/-- A source that opens with the word "not", and no more. -/
theorem wrd_not {s : ByteArray} (hs : 3 ≤ s.size) (hW : s.extract 0 3 = wNot) (h3 : 3 < s.size → an8 (bt s 3) = false) : wrd s 0 = 3 := by
  have b0 : bt s 0 = 110 := by rw [← bt_take s 3 0 (by omega) hs, hW]; rfl
  have b1 : bt s 1 = 111 := by rw [← bt_take s 3 1 (by omega) hs, hW]; rfl
  have b2 : bt s 2 = 116 := by rw [← bt_take s 3 2 (by omega) hs, hW]; rfl
  rw [wrd_yes (by omega) (by rw [b0]; decide), wrd_yes (by omega) (by rw [b1]; decide), wrd_yes (by omega) (by rw [b2]; decide)]
  by_cases h : 3 < s.size
  · exact wrd_no (h3 h)
  · exact wrd_end h

def FnN (s : ByteArray) (w : World) : Prop := Calls Tryf.prog 6 #[.string s] w fun e w' => e = .returned (.bool true) ∧ Below w.heap.size w w'

theorem not_big (s : ByteArray) (w : World) (h : ¬ s.size ≤ 65536) : FnN s w := by
  unfold FnN
  have h2 : 65536 < (s.size : Int) := by omega
  by_cases hb : s.size ≤ 1048576
  · have cb := fun W => nbytes_ok s W hb
    clear hb
    go_enter Tryf.func6, Tryf.ntmps6
    go_wp2_with (go_at_call 24; refine (cb _).mono ?_; rintro e w1 ⟨rfl, rfl⟩)
    go_ret
    exact ⟨rfl, Below.refl _ _⟩
  · have cb := fun W => nbytes_no s W hb
    clear hb
    go_enter Tryf.func6, Tryf.ntmps6
    go_wp2_with (go_at_call 24; refine (cb _).mono ?_; rintro e w1 ⟨rfl, rfl⟩)
    go_ret
    exact ⟨rfl, Below.refl _ _⟩

theorem not_other (s : ByteArray) (w : World) (h : s.size ≤ 65536) (h3 : ¬ (3 ≤ s.size ∧ s.extract 0 3 = wNot)) : FnN s w := by
  unfold FnN
  have cb := fun W => nbytes_ok s W (by omega)
  have h1 : ¬ (65536 < (s.size : Int)) := by omega
  by_cases k : 3 ≤ s.size
  · have kz : ¬ (s.size : Int) < 3 := by omega
    have kz2 : (3 : Int) ≤ (s.size : Int) := by omega
    have q : ¬ s.extract 0 3 = wNot := fun e => h3 ⟨k, e⟩
    obtain ⟨W, hW⟩ : ∃ W, s.extract 0 3 = W := ⟨_, rfl⟩
    rw [hW] at q
    have f := lit_no (l := [110, 111, 116]) q
    clear q h3 h
    go_enter Tryf.func6, Tryf.ntmps6
    go_wp2_with (go_at_call 24; refine (cb _).mono ?_; rintro e w1 ⟨rfl, rfl⟩)
    go_ret
    exact ⟨rfl, Below.refl _ _⟩
  · have kz : (s.size : Int) < 3 := by omega
    clear h3 h
    go_enter Tryf.func6, Tryf.ntmps6
    go_wp2_with (go_at_call 24; refine (cb _).mono ?_; rintro e w1 ⟨rfl, rfl⟩)
    go_ret
    exact ⟨rfl, Below.refl _ _⟩

set_option maxRecDepth 100000 in
set_option maxHeartbeats 8000000 in
theorem not_in (s : ByteArray) (w : World) (hT : Tabs w) (h : s.size ≤ 65536) (h3 : 3 ≤ s.size) (hW : s.extract 0 3 = wNot) : FnN s w := by
  unfold FnN
  have cb := fun W => nbytes_ok s W (by omega)
  have h1 : ¬ (65536 < (s.size : Int)) := by omega
  have kz : ¬ (s.size : Int) < 3 := by omega
  have kz2 : (3 : Int) ≤ (s.size : Int) := by omega
  obtain ⟨P, hP⟩ : ∃ P, run s sp 3 = P := ⟨_, rfl⟩
  obtain ⟨Q, hQ⟩ : ∃ Q, wrd s P = Q := ⟨_, rfl⟩
  have lP := run_le' s sp 3 h3
  rw [hP] at lP
  have lQ := wrd_le s _ P lP.2 rfl
  rw [hQ] at lQ
  have hs3 : (s.extract 0 3) = wNot := hW
  have f3 := lit_yes (W := s.extract 0 3) (l := [110, 111, 116]) hW
  have HP := Lib.hid hP
  have HQ := Lib.hid hQ
  have HW := Lib.hid hW
  have HT := Lib.hid hT
  clear hP hQ hW hT hs3
  have cr := fun W => wrd_run s P W lP.2 (by omega)
  rw [HQ.out] at cr
  by_cases h4 : 3 < s.size
  · have h4z : (3 : Int) < (s.size : Int) := by omega
    have b3 : bt s 3 = (s[3]'h4).toNat := bt_get s 3 h4
    generalize hx3 : s[3]'h4 = x3 at b3
    have ca := fun W => an8_any x3.toNat W x3.toNat_lt
    by_cases h8 : 128 ≤ x3.toNat
    · have h8z : 128 ≤ (x3.toNat : Int) := by omega
      clear b3 ca cr
      go_enter Tryf.func6, Tryf.ntmps6
      go_wp2_with (go_at_call 24; refine (cb _).mono ?_; rintro e w1 ⟨rfl, rfl⟩)
      go_ret
      exact ⟨rfl, Below.refl _ _⟩
    have h8z : ¬ 128 ≤ (x3.toNat : Int) := by omega
    cases ha : an8 x3.toNat with
    | true =>
      rw [ha] at ca
      clear b3 cr ha
      go_enter Tryf.func6, Tryf.ntmps6
      go_wp2_with (first | (go_at_call 24; refine (cb _).mono ?_; rintro e w1 ⟨rfl, rfl⟩) | (go_at_call 12; refine (ca _).mono ?_; rintro e w2 ⟨rfl, hb2⟩))
      go_ret
      exact ⟨rfl, hb2⟩
    | false =>
      rw [ha] at ca
      have HD : Hid (wrd s 0 = 3) := wrd_not h3 HW.out (fun _ => by rw [b3]; exact ha)
      have H8 : Hid (3 < s.size → bt s 3 < 128) := fun _ => by omega
      clear b3 ha
      go_enter Tryf.func6, Tryf.ntmps6
      go_upto_block 0 with (first | (go_at_call 24; refine (cb _).mono ?_; rintro e w1 ⟨rfl, rfl⟩) | (go_at_call 12; refine (ca _).mono ?_; rintro e w2 ⟨rfl, hb2⟩))
      have hb0 := hb2
      clear ca hb2
      clear cb f3
      go_cut [3] (fun s3 wx => s3 = .int .i64 (P : Int) ∧ Below w.heap.size w wx)
      case first =>
        clear HQ HW HT HD H8 cr lQ
        go_wp2_with (fail)
        go_loopw [3] (fun v wr => ∃ m : Nat, m ≤ s.size ∧ v = .int .i64 (m : Int) ∧ Hid (run s sp m = P) ∧ Below w.heap.size w wr) (fun v _ => s.size - (intOf v).toNat)
        case atStart => exact ⟨3, h3, rfl, HP, hb0⟩
        case round =>
          clear HP hb0
          obtain ⟨m, hm, rfl, H1, hbel⟩ := hrel
          by_cases hlt : m < s.size
          · have hlz : (m : Int) < (s.size : Int) := by omega
            have e0 : bt s m = (s[m]'hlt).toNat := bt_get s m hlt
            generalize hx0 : s[m]'hlt = x0 at e0
            by_cases h32 : x0.toNat = 32
            · have z : ((x0.toNat : Int) == 32) = true := by rw [beq_iff_eq]; omega
              have H2 : Hid (run s sp (m + 1) = P) := (run_sp_yes hlt (by omega)).symm.trans H1.out
              clear H1 e0 h32
              go_wp2
              go_roundw
              case rel => exact ⟨m + 1, hlt, by go_num, H2, hbel⟩
              case measure => simp [intOf]; omega
            · have z : ((x0.toNat : Int) == 32) = false := by rw [beq_eq_false_iff_ne]; omega
              have hmP : m = P := by rw [← H1.out, run_sp_no hlt (by omega)]
              subst hmP
              clear H1 e0 h32
              go_wp2
              go_meet
              exact ⟨rfl, hbel⟩
          · have hlz : ¬ (m : Int) < (s.size : Int) := by omega
            have hmP : m = P := by rw [← H1.out, run_end hlt]
            subst hmP
            clear H1
            go_wp2
            go_meet
            exact ⟨rfl, hbel⟩
      case rest =>
        obtain ⟨rfl, hb5⟩ := hcut
        clear hb0
        have cz := fun W (hW : Tabs W) hE => zzNot_any s W P Q hW (by omega) HD.out HW.out H8.out HP.out HQ.out hE
        have HZ := Lib.hid cz
        clear cz HD HW H8 HP HQ
        have lPz : (P : Int) ≤ (Q : Int) := by omega
        have lQz : (Q : Int) ≤ (s.size : Int) := by omega
        obtain ⟨W2, hW2⟩ : ∃ W2, s.extract P Q = W2 := ⟨_, rfl⟩
        have HX := Lib.hid hW2
        clear hW2
        by_cases hlt : Q < s.size
        · have hltz : (Q : Int) < (s.size : Int) := by omega
          have b1 : bt s Q = (s[Q]'hlt).toNat := bt_get s Q hlt
          generalize hx1 : s[Q]'hlt = x1 at b1
          by_cases h8 : 128 ≤ x1.toNat
          · have h8z : 128 ≤ (x1.toNat : Int) := by omega
            clear b1 HZ HT HX
            go_wp2_with (go_at_call 13; refine (cr _).mono ?_; rintro e w3 ⟨rfl, hb3⟩)
            go_ret
            exact ⟨rfl, hb5.trans (hb3.mono hb5.size)⟩
          · have h8y : ¬ 128 ≤ (x1.toNat : Int) := by omega
            have hE8 : Hid (Q < s.size → bt s Q < 128) := fun _ => by omega
            clear b1
            go_wp2_with (go_at_call 13; refine (cr _).mono ?_; rintro e w3 ⟨rfl, hb3⟩)
            have hb6 := hb5.trans (hb3.mono hb5.size)
            have c4 := HZ.out _ (HT.out.below hb6) hE8.out
            clear HZ HT hE8 cr hb5 hb3
            unfold NotOut at c4
            rw [HX.out] at c4
            refine c4.mono ?_
            rintro e w4 ⟨hb4, hid⟩
            have hb7 := hb6.trans (hb4.mono hb6.size)
            clear hb6 hb4 c4
            have hW2 := HX.out
            have cn := fun W => neg_any W2 W
            have c1 := fun W => isTok_yes ⟨0, 3, kOp, wNot⟩ W
            have c2 := fun W => isTok_yes ⟨P, Q, kOp, W2⟩ W
            unfold Tk.val at c1 c2
            simp only at c1 c2
            rcases hid with ⟨hn, rfl⟩ | ⟨hn, rfl⟩
            · rw [hn] at cn
              clear hn
              unfold Tk.val
              go_wp2_with (fail)
              generalize hX : World.alloc (World.alloc w4 _) _ = X
              obtain ⟨N, hN⟩ : ∃ N, w4.heap.size = N := ⟨_, rfl⟩
              have hbX : Below w.heap.size w X := by rw [← hX]; exact (hb7.alloc hb7.size _).alloc (by simp; exact Nat.le_succ_of_le hb7.size) _
              have hblk : ∃ T : Nat, X.heap[N + 1]? = some (.cells #[.int .i64 (P : Int), .int .i64 (Q : Int), .string kOp, .string W2] T (0, 0)) := by
                rw [← hX, ← hN]
                have := alloc_new (w4.alloc (.cells #[.int .i64 0, .int .i64 3, .string kOp, .string wNot] 32)) (.cells #[.int .i64 (P : Int), .int .i64 (Q : Int), .string kOp, .string W2] 32)
                rw [show (w4.alloc (.cells #[.int .i64 0, .int .i64 3, .string kOp, .string wNot] 32)).heap.size = w4.heap.size + 1 by simp] at this
                exact ⟨_, this⟩
              rw [hN]
              clear hX hN hb7
              refine (c1 X).mono ?_
              rintro e w5 ⟨rfl, hb8⟩
              obtain ⟨T, hT⟩ := hblk
              have hT5 := (hb8.block _ (block_lt hT)).trans hT
              have d0 := cell_of (i := 0) (v := .int .i64 (P : Int)) hT5 rfl
              have d1 := cell_of (i := 1) (v := .int .i64 (Q : Int)) hT5 rfl
              have d2 := cell_of (i := 2) (v := .string kOp) hT5 rfl
              have d3 := cell_of (i := 3) (v := .string W2) hT5 rfl
              have hb9 := hbX.trans (hb8.mono hbX.size)
              clear hT hT5 hb8 hbX c1
              go_wp2_with (fail)
              refine (cn _).mono ?_
              rintro e w6 ⟨rfl, rfl⟩
              go_wp2_with (fail)
              refine (c2 _).mono ?_
              rintro e w7 ⟨rfl, hb10⟩
              go_wp2
              go_ret
              exact ⟨rfl, hb9.trans (hb10.mono hb9.size)⟩
            · rw [hn] at cn
              clear hn
              unfold Tk.val
              go_wp2_with (fail)
              generalize hX : World.alloc (World.alloc w4 _) _ = X
              have hbX : Below w.heap.size w X := by rw [← hX]; exact (hb7.alloc hb7.size _).alloc (by simp; exact Nat.le_succ_of_le hb7.size) _
              clear hX hb7 c2
              refine (c1 X).mono ?_
              rintro e w5 ⟨rfl, hb8⟩
              have hb9 := hbX.trans (hb8.mono hbX.size)
              clear hb8 hbX c1
              go_wp2_with (fail)
              refine (cn _).mono ?_
              rintro e w6 ⟨rfl, rfl⟩
              go_wp2
              go_ret
              exact ⟨rfl, hb9⟩
        · have hltz : ¬ (Q : Int) < (s.size : Int) := by omega
          have hE8 : Hid (Q < s.size → bt s Q < 128) := fun k => absurd k hlt
          go_wp2_with (go_at_call 13; refine (cr _).mono ?_; rintro e w3 ⟨rfl, hb3⟩)
          have hb6 := hb5.trans (hb3.mono hb5.size)
          have c4 := HZ.out _ (HT.out.below hb6) hE8.out
          clear HZ HT hE8 cr hb5 hb3
          unfold NotOut at c4
          rw [HX.out] at c4
          refine c4.mono ?_
          rintro e w4 ⟨hb4, hid⟩
          have hb7 := hb6.trans (hb4.mono hb6.size)
          clear hb6 hb4 c4
          have hW2 := HX.out
          have cn := fun W => neg_any W2 W
          have c1 := fun W => isTok_yes ⟨0, 3, kOp, wNot⟩ W
          have c2 := fun W => isTok_yes ⟨P, Q, kOp, W2⟩ W
          unfold Tk.val at c1 c2
          simp only at c1 c2
          rcases hid with ⟨hn, rfl⟩ | ⟨hn, rfl⟩
          · rw [hn] at cn
            clear hn
            unfold Tk.val
            go_wp2_with (fail)
            generalize hX : World.alloc (World.alloc w4 _) _ = X
            obtain ⟨N, hN⟩ : ∃ N, w4.heap.size = N := ⟨_, rfl⟩
            have hbX : Below w.heap.size w X := by rw [← hX]; exact (hb7.alloc hb7.size _).alloc (by simp; exact Nat.le_succ_of_le hb7.size) _
            have hblk : ∃ T : Nat, X.heap[N + 1]? = some (.cells #[.int .i64 (P : Int), .int .i64 (Q : Int), .string kOp, .string W2] T (0, 0)) := by
              rw [← hX, ← hN]
              have := alloc_new (w4.alloc (.cells #[.int .i64 0, .int .i64 3, .string kOp, .string wNot] 32)) (.cells #[.int .i64 (P : Int), .int .i64 (Q : Int), .string kOp, .string W2] 32)
              rw [show (w4.alloc (.cells #[.int .i64 0, .int .i64 3, .string kOp, .string wNot] 32)).heap.size = w4.heap.size + 1 by simp] at this
              exact ⟨_, this⟩
            rw [hN]
            clear hX hN hb7
            refine (c1 X).mono ?_
            rintro e w5 ⟨rfl, hb8⟩
            obtain ⟨T, hT⟩ := hblk
            have hT5 := (hb8.block _ (block_lt hT)).trans hT
            have d0 := cell_of (i := 0) (v := .int .i64 (P : Int)) hT5 rfl
            have d1 := cell_of (i := 1) (v := .int .i64 (Q : Int)) hT5 rfl
            have d2 := cell_of (i := 2) (v := .string kOp) hT5 rfl
            have d3 := cell_of (i := 3) (v := .string W2) hT5 rfl
            have hb9 := hbX.trans (hb8.mono hbX.size)
            clear hT hT5 hb8 hbX c1
            go_wp2_with (fail)
            refine (cn _).mono ?_
            rintro e w6 ⟨rfl, rfl⟩
            go_wp2_with (fail)
            refine (c2 _).mono ?_
            rintro e w7 ⟨rfl, hb10⟩
            go_wp2
            go_ret
            exact ⟨rfl, hb9.trans (hb10.mono hb9.size)⟩
          · rw [hn] at cn
            clear hn
            unfold Tk.val
            go_wp2_with (fail)
            generalize hX : World.alloc (World.alloc w4 _) _ = X
            have hbX : Below w.heap.size w X := by rw [← hX]; exact (hb7.alloc hb7.size _).alloc (by simp; exact Nat.le_succ_of_le hb7.size) _
            clear hX hb7 c2
            refine (c1 X).mono ?_
            rintro e w5 ⟨rfl, hb8⟩
            have hb9 := hbX.trans (hb8.mono hbX.size)
            clear hb8 hbX c1
            go_wp2_with (fail)
            refine (cn _).mono ?_
            rintro e w6 ⟨rfl, rfl⟩
            go_wp2
            go_ret
            exact ⟨rfl, hb9⟩
  · have h4z : ¬ (3 : Int) < (s.size : Int) := by omega
    have HD : Hid (wrd s 0 = 3) := wrd_not h3 HW.out (fun k => absurd k h4)
    have H8 : Hid (3 < s.size → bt s 3 < 128) := fun k => absurd k h4
    go_enter Tryf.func6, Tryf.ntmps6
    go_upto_block 0 with (first | (go_at_call 24; refine (cb _).mono ?_; rintro e w1 ⟨rfl, rfl⟩))
    have hb0 := Below.refl w.heap.size w
    clear cb f3
    go_cut [3] (fun s3 wx => s3 = .int .i64 (P : Int) ∧ Below w.heap.size w wx)
    case first =>
      clear HQ HW HT HD H8 cr lQ
      go_wp2_with (fail)
      go_loopw [3] (fun v wr => ∃ m : Nat, m ≤ s.size ∧ v = .int .i64 (m : Int) ∧ Hid (run s sp m = P) ∧ Below w.heap.size w wr) (fun v _ => s.size - (intOf v).toNat)
      case atStart => exact ⟨3, h3, rfl, HP, hb0⟩
      case round =>
        clear HP hb0
        obtain ⟨m, hm, rfl, H1, hbel⟩ := hrel
        by_cases hlt : m < s.size
        · have hlz : (m : Int) < (s.size : Int) := by omega
          have e0 : bt s m = (s[m]'hlt).toNat := bt_get s m hlt
          generalize hx0 : s[m]'hlt = x0 at e0
          by_cases h32 : x0.toNat = 32
          · have z : ((x0.toNat : Int) == 32) = true := by rw [beq_iff_eq]; omega
            have H2 : Hid (run s sp (m + 1) = P) := (run_sp_yes hlt (by omega)).symm.trans H1.out
            clear H1 e0 h32
            go_wp2
            go_roundw
            case rel => exact ⟨m + 1, hlt, by go_num, H2, hbel⟩
            case measure => simp [intOf]; omega
          · have z : ((x0.toNat : Int) == 32) = false := by rw [beq_eq_false_iff_ne]; omega
            have hmP : m = P := by rw [← H1.out, run_sp_no hlt (by omega)]
            subst hmP
            clear H1 e0 h32
            go_wp2
            go_meet
            exact ⟨rfl, hbel⟩
        · have hlz : ¬ (m : Int) < (s.size : Int) := by omega
          have hmP : m = P := by rw [← H1.out, run_end hlt]
          subst hmP
          clear H1
          go_wp2
          go_meet
          exact ⟨rfl, hbel⟩
    case rest =>
      obtain ⟨rfl, hb5⟩ := hcut
      clear hb0
      have cz := fun W (hW : Tabs W) hE => zzNot_any s W P Q hW (by omega) HD.out HW.out H8.out HP.out HQ.out hE
      have HZ := Lib.hid cz
      clear cz HD HW H8 HP HQ
      have lPz : (P : Int) ≤ (Q : Int) := by omega
      have lQz : (Q : Int) ≤ (s.size : Int) := by omega
      obtain ⟨W2, hW2⟩ : ∃ W2, s.extract P Q = W2 := ⟨_, rfl⟩
      have HX := Lib.hid hW2
      clear hW2
      have hlt : ¬ Q < s.size := by omega
      have hltz : ¬ (Q : Int) < (s.size : Int) := by omega
      have hE8 : Hid (Q < s.size → bt s Q < 128) := fun k => absurd k hlt
      go_wp2_with (go_at_call 13; refine (cr _).mono ?_; rintro e w3 ⟨rfl, hb3⟩)
      have hb6 := hb5.trans (hb3.mono hb5.size)
      have c4 := HZ.out _ (HT.out.below hb6) hE8.out
      clear HZ HT hE8 cr hb5 hb3
      unfold NotOut at c4
      rw [HX.out] at c4
      refine c4.mono ?_
      rintro e w4 ⟨hb4, hid⟩
      have hb7 := hb6.trans (hb4.mono hb6.size)
      clear hb6 hb4 c4
      have hW2 := HX.out
      have cn := fun W => neg_any W2 W
      have c1 := fun W => isTok_yes ⟨0, 3, kOp, wNot⟩ W
      have c2 := fun W => isTok_yes ⟨P, Q, kOp, W2⟩ W
      unfold Tk.val at c1 c2
      simp only at c1 c2
      rcases hid with ⟨hn, rfl⟩ | ⟨hn, rfl⟩
      · rw [hn] at cn
        clear hn
        unfold Tk.val
        go_wp2_with (fail)
        generalize hX : World.alloc (World.alloc w4 _) _ = X
        obtain ⟨N, hN⟩ : ∃ N, w4.heap.size = N := ⟨_, rfl⟩
        have hbX : Below w.heap.size w X := by rw [← hX]; exact (hb7.alloc hb7.size _).alloc (by simp; exact Nat.le_succ_of_le hb7.size) _
        have hblk : ∃ T : Nat, X.heap[N + 1]? = some (.cells #[.int .i64 (P : Int), .int .i64 (Q : Int), .string kOp, .string W2] T (0, 0)) := by
          rw [← hX, ← hN]
          have := alloc_new (w4.alloc (.cells #[.int .i64 0, .int .i64 3, .string kOp, .string wNot] 32)) (.cells #[.int .i64 (P : Int), .int .i64 (Q : Int), .string kOp, .string W2] 32)
          rw [show (w4.alloc (.cells #[.int .i64 0, .int .i64 3, .string kOp, .string wNot] 32)).heap.size = w4.heap.size + 1 by simp] at this
          exact ⟨_, this⟩
        rw [hN]
        clear hX hN hb7
        refine (c1 X).mono ?_
        rintro e w5 ⟨rfl, hb8⟩
        obtain ⟨T, hT⟩ := hblk
        have hT5 := (hb8.block _ (block_lt hT)).trans hT
        have d0 := cell_of (i := 0) (v := .int .i64 (P : Int)) hT5 rfl
        have d1 := cell_of (i := 1) (v := .int .i64 (Q : Int)) hT5 rfl
        have d2 := cell_of (i := 2) (v := .string kOp) hT5 rfl
        have d3 := cell_of (i := 3) (v := .string W2) hT5 rfl
        have hb9 := hbX.trans (hb8.mono hbX.size)
        clear hT hT5 hb8 hbX c1
        go_wp2_with (fail)
        refine (cn _).mono ?_
        rintro e w6 ⟨rfl, rfl⟩
        go_wp2_with (fail)
        refine (c2 _).mono ?_
        rintro e w7 ⟨rfl, hb10⟩
        go_wp2
        go_ret
        exact ⟨rfl, hb9.trans (hb10.mono hb9.size)⟩
      · rw [hn] at cn
        clear hn
        unfold Tk.val
        go_wp2_with (fail)
        generalize hX : World.alloc (World.alloc w4 _) _ = X
        have hbX : Below w.heap.size w X := by rw [← hX]; exact (hb7.alloc hb7.size _).alloc (by simp; exact Nat.le_succ_of_le hb7.size) _
        clear hX hb7 c2
        refine (c1 X).mono ?_
        rintro e w5 ⟨rfl, hb8⟩
        have hb9 := hbX.trans (hb8.mono hbX.size)
        clear hb8 hbX c1
        go_wp2_with (fail)
        refine (cn _).mono ?_
        rintro e w6 ⟨rfl, rfl⟩
        go_wp2
        go_ret
        exact ⟨rfl, hb9⟩

theorem not_walk (s : ByteArray) (w : World) (hT : Tabs w) : Calls Tryf.prog 6 #[.string s] w fun e w' => e = .returned (.bool true) ∧ Below w.heap.size w w' := by
  by_cases h : s.size ≤ 65536
  · by_cases k : 3 ≤ s.size ∧ s.extract 0 3 = wNot
    · exact not_in s w hT h k.1 k.2
    · exact not_other s w h k
  · exact not_big s w h

end Go.Proofs.YtdlkdojgbiahgaaFmt.Lx
