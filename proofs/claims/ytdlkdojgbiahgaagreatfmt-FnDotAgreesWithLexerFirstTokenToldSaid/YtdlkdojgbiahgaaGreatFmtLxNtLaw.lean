/-
  The walk of FnNotThenWordLexesExactly: it returns true for every input. Condition: the tables are laid.
-/
import Derived.Test.YtdlkdojgbiahgaaGreatFmtLxNtPlain
import Derived.Laws.IdiomStrings
import Derived.Room.AppendFits
namespace Go.Proofs.YtdlkdojgbiahgaaGreatFmt.Lx
open Go.RowKit Go.Lib

theorem tbytes_ok (k : Int) (W : ByteArray) (w : World) (h : W.size ≤ 1048576) : Calls Tryz.prog 6 #[.int .i64 k, .string W] w fun e w' => e = .returned (.bool true) ∧ w = w' := by
  have h1 : ¬ (1048576 < (W.size : Int)) := by omega
  go_enter Tryz.func6, Tryz.ntmps6
  go_wp2
  go_ret
  exact ⟨rfl, rfl⟩
theorem tbytes_no (k : Int) (W : ByteArray) (w : World) (h : ¬ W.size ≤ 1048576) : Calls Tryz.prog 6 #[.int .i64 k, .string W] w fun e w' => e = .returned (.bool false) ∧ w = w' := by
  have h1 : 1048576 < (W.size : Int) := by omega
  go_enter Tryz.func6, Tryz.ntmps6
  go_wp2
  go_ret
  exact ⟨rfl, rfl⟩

def FnT (k : Int) (W : ByteArray) (w : World) : Prop := Calls Tryz.prog 3 #[.int .i64 k, .string W] w fun e w' => e = .returned (.bool true) ∧ Below w.heap.size w w'

set_option maxRecDepth 100000 in
theorem nt_big (k : Int) (W : ByteArray) (w : World) (h : ¬ W.size ≤ 65536) : FnT k W w := by
  unfold FnT
  have h2 : 65536 < (W.size : Int) := by omega
  by_cases hb : W.size ≤ 1048576
  · have cb := fun w1 => tbytes_ok k W w1 hb
    clear hb
    go_enter Tryz.func3, Tryz.ntmps3
    go_wp2_with (go_at_call 6; refine (cb _).mono ?_; rintro e w1 ⟨rfl, rfl⟩)
    go_ret
    exact ⟨rfl, Below.refl _ _⟩
  · have cb := fun w1 => tbytes_no k W w1 hb
    clear hb
    go_enter Tryz.func3, Tryz.ntmps3
    go_wp2_with (go_at_call 6; refine (cb _).mono ?_; rintro e w1 ⟨rfl, rfl⟩)
    go_ret
    exact ⟨rfl, Below.refl _ _⟩

set_option maxRecDepth 100000 in
theorem nt_k (k : Int) (W : ByteArray) (w : World) (h : W.size ≤ 65536) (hk : k < 1 ∨ (¬ k < 1 ∧ 65536 < k)) : FnT k W w := by
  unfold FnT
  have h2 : ¬ 65536 < (W.size : Int) := by omega
  have cb := fun w1 => tbytes_ok k W w1 (by omega)
  clear h
  rcases hk with hk | ⟨hk, hk2⟩
  all_goals
    go_enter Tryz.func3, Tryz.ntmps3
    go_wp2_with (go_at_call 6; refine (cb _).mono ?_; rintro e w1 ⟨rfl, rfl⟩)
    go_ret
    exact ⟨rfl, Below.refl _ _⟩

set_option maxRecDepth 100000 in
set_option maxHeartbeats 4000000 in
/-- A byte that is no word byte. -/
theorem nt_bad (k : Int) (W : ByteArray) (w : World) (h : W.size ≤ 65536) (hk : ¬ k < 1) (hk2 : ¬ 65536 < k) (j0 : Nat) (hj : j0 < W.size) (hbad : an8 (bt W j0) = false) (hok : ∀ i, i < j0 → an8 (bt W i) = true) : FnT k W w := by
  unfold FnT
  have h2 : ¬ 65536 < (W.size : Int) := by omega
  have cb := fun w1 => tbytes_ok k W w1 (by omega)
  have HO := Lib.hid hok
  clear hok
  go_enter Tryz.func3, Tryz.ntmps3
  go_wp2_with (go_at_call 6; refine (cb _).mono ?_; rintro e w1 ⟨rfl, rfl⟩)
  go_loopw [5] (fun v wr => ∃ m : Nat, m ≤ j0 ∧ v = .int .i64 (m : Int) ∧ Below w.heap.size w wr) (fun v _ => W.size - (intOf v).toNat)
  case atStart => exact ⟨0, Nat.zero_le _, rfl, Below.refl _ _⟩
  case round =>
    obtain ⟨m, hm, rfl, hbel⟩ := hrel
    have hlt : m < W.size := by omega
    have hlz : (m : Int) < (W.size : Int) := by omega
    have e0 : bt W m = (W[m]'hlt).toNat := bt_get W m hlt
    generalize hx0 : W[m]'hlt = x0 at e0
    have ca := an8_any x0.toNat wr x0.toNat_lt
    by_cases hmj : m < j0
    · have ha := HO.out m hmj
      rw [e0] at ha
      rw [ha] at ca
      clear e0 ha hbad
      go_wp2_with (go_at_call 7; refine ca.mono ?_; rintro e w1 ⟨rfl, hb1⟩)
      go_roundw
      case rel => exact ⟨m + 1, hmj, by go_num, hbel.trans (hb1.mono hbel.size)⟩
      case measure => simp [intOf]; omega
    · have e : m = j0 := by omega
      subst e
      rw [e0] at hbad
      rw [hbad] at ca
      clear e0 hbad
      go_wp2_with (go_at_call 7; refine ca.mono ?_; rintro e w1 ⟨rfl, hb1⟩)
      go_ret
      exact ⟨rfl, hbel.trans (hb1.mono hbel.size)⟩

set_option maxRecDepth 100000 in
set_option maxHeartbeats 4000000 in
/-- The word opens with a digit. -/
theorem nt_digit (k : Int) (W : ByteArray) (w : World) (h : W.size ≤ 65536) (hk : ¬ k < 1) (hk2 : ¬ 65536 < k) (hok : ∀ i, i < W.size → an8 (bt W i) = true) (hp : 0 < W.size) (hd1 : 48 ≤ bt W 0) (hd2 : bt W 0 ≤ 57) : FnT k W w := by
  unfold FnT
  have h2 : ¬ 65536 < (W.size : Int) := by omega
  have cb := fun w1 => tbytes_ok k W w1 (by omega)
  have HO := Lib.hid hok
  have hpz : (0 : Int) < (W.size : Int) := by omega
  have b0 : bt W 0 = (W[0]'hp).toNat := bt_get W 0 hp
  generalize hy0 : W[0]'hp = y0 at b0
  rw [b0] at hd1 hd2
  have hd1z : (48 : Int) ≤ (y0.toNat : Int) := by omega
  have hd2z : (y0.toNat : Int) ≤ 57 := by omega
  clear hok b0 hd1 hd2
  go_enter Tryz.func3, Tryz.ntmps3
  go_wp2_with (go_at_call 6; refine (cb _).mono ?_; rintro e w1 ⟨rfl, rfl⟩)
  go_loopw [5] (fun v wr => ∃ m : Nat, m ≤ W.size ∧ v = .int .i64 (m : Int) ∧ Below w.heap.size w wr) (fun v _ => W.size - (intOf v).toNat)
  case atStart => exact ⟨0, Nat.zero_le _, rfl, Below.refl _ _⟩
  case round =>
    obtain ⟨m, hm, rfl, hbel⟩ := hrel
    by_cases hlt : m < W.size
    · have hlz : (m : Int) < (W.size : Int) := by omega
      have e0 : bt W m = (W[m]'hlt).toNat := bt_get W m hlt
      generalize hx0 : W[m]'hlt = x0 at e0
      have ca := an8_any x0.toNat wr x0.toNat_lt
      have ha := HO.out m hlt
      rw [e0] at ha
      rw [ha] at ca
      clear e0 ha
      go_wp2_with (go_at_call 7; refine ca.mono ?_; rintro e w1 ⟨rfl, hb1⟩)
      go_roundw
      case rel => exact ⟨m + 1, hlt, by go_num, hbel.trans (hb1.mono hbel.size)⟩
      case measure => simp [intOf]; omega
    · have hlz : ¬ (m : Int) < (W.size : Int) := by omega
      go_wp2
      go_ret
      exact ⟨rfl, hbel⟩

theorem u8_info : (Tryz.prog.info? 5).map (fun i => (i.zero, i.size, i.bytes)) = some (some (.int .u8 0), 1, 1) := by kernel_rfl
theorem row_block1 {w w' : World} {B e g n c k : Nat} {xs : List Value} (h : w.ownsRow B e 1 (.slice (some ⟨g, 0, none⟩) n c) k xs) (hg : w'.heap[g]? = w.heap[g]?) : w'.ownsRow B e 1 (.slice (some ⟨g, 0, none⟩) n c) k xs := by
  refine ⟨h.1, ?_⟩
  rcases h.2 with ⟨h1, _⟩ | ⟨g', cap, cur, hv, h1, h2, h3⟩
  · cases h1
  · refine Or.inr ⟨g', cap, cur, hv, h1, ?_, h3⟩
    have : g' = g := by
      injection hv with e1 e2 e3
      injection e1 with e1
      injection e1 with e1 e4 e5
      exact e1.symm
    subst this
    rw [hg]; exact h2
theorem below_grown {w w1 w2 : World} {B M : Nat} (h : Below B w w1) (hg : w1.grownBy w2 (some M)) (hM : B ≤ M) (hB : B ≤ w1.heap.size) : Below B w w2 :=
  h.trans ((ch_of_grown hg).below (fun k hk => by simp at hk; omega) hB)
/-- The source's cells. -/
theorem src_cells (k : Nat) (W : ByteArray) : (strCells wNot ++ List.replicate k (.int .u8 32)) ++ strCells W = (srcL k W).map fun b => Value.int .u8 b.toNat := by
  unfold srcL strCells
  rw [List.map_append, List.map_append, List.map_replicate, List.append_assoc]
  rfl

/-- A row of tokens in a block of its own; what was made since w0 besides. -/
def HoldM (w0 w : World) (M n : Nat) (TS : List Tk) : Prop := Below w0.heap.size w0 w ∧ w.ownsRow w0.heap.size 33 4 (.slice (some ⟨M, 0, none⟩) n 10) n (TS.flatMap Tk.vals)
theorem HoldM.step {w0 w w' : World} {M n : Nat} {TS : List Tk} (h : HoldM w0 w M n TS) (hb : Below w.heap.size w w') : HoldM w0 w' M n TS :=
  ⟨h.1.trans (hb.mono h.1.size), row_block h.2 (hb.block M (h.2.lt M rfl).2)⟩
theorem HoldM.cells {w0 w : World} {M n : Nat} {TS : List Tk} (h : HoldM w0 w M n TS) (i : Nat) (t : Tk) (hi : i < n) (ht : TS[i]? = some t) :
    w.cell? ⟨M, i * 4, none⟩ = some (.int .i64 (t.a : Int)) ∧ w.cell? ⟨M, i * 4 + 1, none⟩ = some (.int .i64 (t.b : Int)) ∧ w.cell? ⟨M, i * 4 + 2, none⟩ = some (.string t.kind) ∧ w.cell? ⟨M, i * 4 + 3, none⟩ = some (.string t.txt) := by
  obtain ⟨hlt, he⟩ := List.getElem?_eq_some_iff.1 ht
  have hf := fun j hj => flat_get TS i j hlt hj
  rw [he] at hf
  refine ⟨?_, ?_, ?_, ?_⟩
  · rw [h.2.cellAt (i * 4) (by omega)]; exact hf 0 (by omega)
  · rw [h.2.cellAt (i * 4 + 1) (by omega)]; exact hf 1 (by omega)
  · rw [h.2.cellAt (i * 4 + 2) (by omega)]; exact hf 2 (by omega)
  · rw [h.2.cellAt (i * 4 + 3) (by omega)]; exact hf 3 (by omega)

theorem row2 {w0 w : World} {M m N : Nat} (h : HoldM w0 w M 2 [Tk.mk 0 3 kOp wNot, Tk.mk m N eofT ⟨#[]⟩]) :
    w.cell? ⟨M, 0, none⟩ = some (.int .i64 0) ∧ w.cell? ⟨M, 1, none⟩ = some (.int .i64 3) ∧ w.cell? ⟨M, 2, none⟩ = some (.string kOp) ∧ w.cell? ⟨M, 3, none⟩ = some (.string wNot) ∧
    w.cell? ⟨M, 4, none⟩ = some (.int .i64 (m : Int)) ∧ w.cell? ⟨M, 5, none⟩ = some (.int .i64 (N : Int)) ∧ w.cell? ⟨M, 6, none⟩ = some (.string eofT) ∧ w.cell? ⟨M, 7, none⟩ = some (.string ⟨#[]⟩) := by
  obtain ⟨a0, a1, a2, a3⟩ := h.cells 0 _ (by decide) rfl
  obtain ⟨b0, b1, b2, b3⟩ := h.cells 1 _ (by decide) rfl
  exact ⟨a0, a1, a2, a3, b0, b1, b2, b3⟩
theorem row3 {w0 w : World} {M m N P : Nat} {k W : ByteArray} (h : HoldM w0 w M 3 [Tk.mk 0 3 kOp wNot, Tk.mk P N k W, Tk.mk m N eofT ⟨#[]⟩]) :
    w.cell? ⟨M, 0, none⟩ = some (.int .i64 0) ∧ w.cell? ⟨M, 1, none⟩ = some (.int .i64 3) ∧ w.cell? ⟨M, 2, none⟩ = some (.string kOp) ∧ w.cell? ⟨M, 3, none⟩ = some (.string wNot) ∧
    w.cell? ⟨M, 4, none⟩ = some (.int .i64 (P : Int)) ∧ w.cell? ⟨M, 5, none⟩ = some (.int .i64 (N : Int)) ∧ w.cell? ⟨M, 6, none⟩ = some (.string k) ∧ w.cell? ⟨M, 7, none⟩ = some (.string W) ∧
    w.cell? ⟨M, 8, none⟩ = some (.int .i64 (m : Int)) ∧ w.cell? ⟨M, 9, none⟩ = some (.int .i64 (N : Int)) ∧ w.cell? ⟨M, 10, none⟩ = some (.string eofT) ∧ w.cell? ⟨M, 11, none⟩ = some (.string ⟨#[]⟩) := by
  obtain ⟨a0, a1, a2, a3⟩ := h.cells 0 _ (by decide) rfl
  obtain ⟨b0, b1, b2, b3⟩ := h.cells 1 _ (by decide) rfl
  obtain ⟨c0, c1, c2, c3⟩ := h.cells 2 _ (by decide) rfl
  exact ⟨a0, a1, a2, a3, b0, b1, b2, b3, c0, c1, c2, c3⟩

set_option maxRecDepth 100000 in
set_option maxHeartbeats 16000000 in
theorem nt_in (K : Nat) (W : ByteArray) (w : World) (hT : Tabs w) (h : W.size ≤ 65536) (hk : 1 ≤ K) (hk2 : K ≤ 65536) (hok : ∀ i, i < W.size → an8 (bt W i) = true) (hd : ¬ (48 ≤ bt W 0 ∧ bt W 0 ≤ 57)) : FnT (K : Int) W w := by
  unfold FnT
  have h2 : ¬ 65536 < (W.size : Int) := by omega
  have hkz : ¬ (K : Int) < 1 := by omega
  have hkz2 : ¬ 65536 < (K : Int) := by omega
  have cb := fun w1 => tbytes_ok (K : Int) W w1 (by omega)
  have HO := Lib.hid hok
  have HS := Lib.hid fun w1 hw1 => zzLex_any (srcB K W) w1 hw1 (toksOf K W) (by unfold toksOf; by_cases h0 : W.size = 0 <;> simp [h0]) (fun w0 W1 B L R hq => serve_all K W hk hk2 h hok hd w0 W1 B L R hq)
  have HT := Lib.hid hT
  have hfront : (¬ (0 : Int) < (W.size : Int)) ∨ ((0 : Int) < (W.size : Int) ∧ ∃ hp : 0 < W.size, ¬ (48 : Int) ≤ ((W[0]'hp).toNat : Int)) ∨ ((0 : Int) < (W.size : Int) ∧ ∃ hp : 0 < W.size, (48 : Int) ≤ ((W[0]'hp).toNat : Int) ∧ ¬ ((W[0]'hp).toNat : Int) ≤ 57) := by
    by_cases hp : 0 < W.size
    · have b0 : bt W 0 = (W[0]'hp).toNat := bt_get W 0 hp
      rw [b0] at hd
      by_cases h48 : 48 ≤ (W[0]'hp).toNat
      · exact Or.inr (Or.inr ⟨by omega, hp, by omega, by omega⟩)
      · exact Or.inr (Or.inl ⟨by omega, hp, by omega⟩)
    · exact Or.inl (by omega)
  have HFr := Lib.hid hfront
  have HK := Lib.hid (show 1 ≤ K ∧ K ≤ 65536 from ⟨hk, hk2⟩)
  clear hok hT hd hk hk2 hfront
  go_enter Tryz.func3, Tryz.ntmps3
  go_wp2_with (go_at_call 6; refine (cb _).mono ?_; rintro e w1 ⟨rfl, rfl⟩)
  clear cb
  go_loopw [5] (fun v wr => ∃ m : Nat, m ≤ W.size ∧ v = .int .i64 (m : Int) ∧ Below w.heap.size w wr) (fun v _ => W.size - (intOf v).toNat)
  case atStart => exact ⟨0, Nat.zero_le _, rfl, Below.refl _ _⟩
  case round =>
    obtain ⟨m, hm, rfl, hbel⟩ := hrel
    by_cases hlt : m < W.size
    · have hlz : (m : Int) < (W.size : Int) := by omega
      have e0 : bt W m = (W[m]'hlt).toNat := bt_get W m hlt
      generalize hx0 : W[m]'hlt = x0 at e0
      have ca := an8_any x0.toNat wr x0.toNat_lt
      have ha := HO.out m hlt
      rw [e0] at ha
      rw [ha] at ca
      clear e0 ha HS HFr
      go_wp2_with (go_at_call 7; refine ca.mono ?_; rintro e w1 ⟨rfl, hb1⟩)
      go_roundw
      case rel => exact ⟨m + 1, hlt, by go_num, hbel.trans (hb1.mono hbel.size)⟩
      case measure => simp [intOf]; omega
    · have hlz : ¬ (m : Int) < (W.size : Int) := by omega
      clear HO
      obtain ⟨i, hi, hzz⟩ := Option.map_eq_some_iff.1 u8_info
      simp only [Prod.mk.injEq] at hzz
      obtain ⟨hz, hs1, hby⟩ := hzz
      have HI := Lib.hid (show Tryz.prog.info? 5 = some i ∧ i.size = 1 ∧ i.zero = some (.int .u8 0) ∧ i.bytes = 1 from ⟨hi, hs1, hz, hby⟩)
      obtain ⟨N, hN⟩ : ∃ N, 3 + K + W.size = N := ⟨_, rfl⟩
      have hNz : 3 + (K : Int) + (W.size : Int) = (N : Int) := by omega
      have hN8 : N ≤ 200000 := by have := HK.out; omega
      clear hi hs1 hz hby hlt hm
      have hmax : N ≤ maxLen := Nat.le_trans hN8 (by decide)
      rcases HFr.out with hz0 | ⟨hz0, hp, hd1⟩ | ⟨hz0, hp, hd1, hd2⟩
      all_goals clear HFr
      all_goals
        go_wp2_with (at_make; refine wpList_make_own _ rfl _ _ 24 rfl w.heap.size 5 i (.int .u8 0) 1 Tryz.underlying24 HI.out.1 HI.out.2.2.1 HI.out.2.1 .i64 .i64 _ N rfl rfl rfl (by rw [HI.out.2.2.2]; omega) hmax hbel.size ?_)
        intro w1 hown hgrow
        obtain ⟨M, hM⟩ : ∃ M, wr.heap.size = M := ⟨_, rfl⟩
        have hBM : w.heap.size ≤ M := by rw [← hM]; exact hbel.size
        have hb1 : Below w.heap.size w w1 := hbel.trans ((below_of_grown hgrow).mono hbel.size)
        rw [hM] at hown ⊢
        have HO1 := Lib.hid hown
        have HB1 := Lib.hid hb1
        have hN0 : 0 < N := by omega
        have hN3 : 0 + wNot.size ≤ N := by show 3 ≤ N; omega
        clear hM hgrow hbel hown hb1
        go_wp2_with (at_builtin; refine wpList_append_fits_string _ rfl _ _ 24 9 rfl w.heap.size 5 i Tryz.underlying24 Tryz.underlying9 HI.out.1 HI.out.2.1 (some ⟨M, 0, none⟩) 0 N [] rfl HO1.out wNot rfl hN0 hN3 ?_)
        intro w2 hown hg2
        have hb2 := below_grown HB1.out hg2 hBM (HB1.out.size)
        rw [show wNot.size = 3 from rfl] at hown ⊢
        have hrow0 : w2.ownsRow w.heap.size 5 1 (.slice (some ⟨M, 0, none⟩) (3 + 0) N) (3 + 0) (strCells wNot ++ List.replicate 0 (.int .u8 32)) := by
          rw [List.replicate_zero, List.append_nil]; exact hown
        clear hg2 hown HO1 HB1 hN3
        go_wp2_with (fail)
        go_loopg [6, 7] (K + 1) (fun kk v6 v7 wr2 => ∃ j : Nat, j ≤ K ∧ v6 = .slice (some ⟨M, 0, none⟩) (3 + j) N ∧ v7 = .int .i64 (j : Int) ∧ kk = K + 1 - j ∧ wr2.ownsRow w.heap.size 5 1 (.slice (some ⟨M, 0, none⟩) (3 + j) N) (3 + j) (strCells wNot ++ List.replicate j (.int .u8 32)) ∧ Below w.heap.size w wr2)
        case atStart => exact ⟨0, Nat.zero_le _, rfl, rfl, rfl, hrow0, hb2⟩
        case round =>
          clear hrow0 hb2
          obtain ⟨j, hj, rfl, rfl, hkk, hrow, hb⟩ := hrel
          have HKK := Lib.hid hkk
          have HR := Lib.hid hrow
          have HB := Lib.hid hb
          clear hkk hrow hb
          by_cases hjk : j < K
          · have hjz : (j : Int) < (K : Int) := by omega
            have hroom : 3 + j + 1 ≤ N := by omega
            clear HS HT hz0
            go_wp2_with (at_builtin; refine wpList_append_fits _ rfl _ _ 24 rfl w.heap.size 5 i 1 Tryz.underlying24 HI.out.1 HI.out.2.1 M (3 + j) N _ rfl (HR.out.alloc _) ⟨wr.heap.size, 0, none⟩ 1 1 [.int .u8 32] rfl rfl (cells_of_block (alloc_new _ _)) (by intro u hu; rw [List.mem_singleton] at hu; rw [hu]; rfl) hroom ?_)
            intro w4 hown4 hg4
            have hb4 := below_grown (HB.out.alloc HB.out.size (.cells #[.int .u8 32] 5)) hg4 hBM (HB.out.alloc HB.out.size _).size
            have hrow4 : w4.ownsRow w.heap.size 5 1 (.slice (some ⟨M, 0, none⟩) (3 + (j + 1)) N) (3 + (j + 1)) (strCells wNot ++ List.replicate (j + 1) (.int .u8 32)) := by
              rw [List.replicate_succ', ← Nat.add_assoc]
              rw [← List.append_assoc] at hown4
              rw [← List.append_assoc]
              exact hown4
            have HR4 := Lib.hid hrow4
            have HB4 := Lib.hid hb4
            clear hown4 hg4 hrow4 hb4 HR HB
            go_wp2
            go_roundg (K + 1 - (j + 1))
            case measure => have := HKK.out; omega
            case rel => exact ⟨j + 1, hjk, rfl, by go_num, rfl, HR4.out, HB4.out⟩
          · obtain rfl : K = j := by omega
            have hjz : ¬ (K : Int) < (K : Int) := by omega
            have hroom : 3 + K + W.size ≤ N := by omega
            clear HKK hj hjk
            go_wp2_with (at_builtin; refine wpList_append_fits_string _ rfl _ _ 24 9 rfl w.heap.size 5 i Tryz.underlying24 Tryz.underlying9 HI.out.1 HI.out.2.1 (some ⟨M, 0, none⟩) (3 + K) N _ rfl HR.out W rfl hN0 hroom ?_)
            intro w5 hown5 hg5
            have hb5 := below_grown HB.out hg5 hBM HB.out.size
            rw [← List.append_assoc, src_cells] at hown5
            have hconv : (convert 24 9 (.slice (some ⟨M, 0, none⟩) N N)).run Tryz.prog w5 = .ok (.string (srcB K W)) w5 := by
              have hc := run_convert_bytes_back (P := Tryz.prog) w5 24 9 5 ⟨M, 0, none⟩ N (srcL K W) Tryz.underlying24 Tryz.underlying5 Tryz.underlying9 (fun j hj => hown5.cells rfl j _ (by rw [List.getElem?_map, List.getElem?_eq_getElem hj]; rfl))
              rw [srcL_length, hN] at hc
              exact hc
            have cS := HS.out w5 (HT.out.below hb5)
            have hsz := src_size K W
            rw [hN] at hsz
            have hszz : ((srcB K W).size : Int) = (N : Int) := by rw [hsz]
            obtain ⟨m2, hm2⟩ : ∃ m2, N - 1 = m2 := ⟨_, rfl⟩
            have hN4 : 4 ≤ N := by have := HK.out; omega
            have hsub : (N : Int) - 1 = (m2 : Int) := by omega
            obtain ⟨P, hP⟩ : ∃ P, 3 + K = P := ⟨_, rfl⟩
            have hPz : 3 + (K : Int) = (P : Int) := by omega
            have hm2b : (m2 : Int) ≤ 200000 := by omega
            have hPb : (P : Int) ≤ 200000 := by omega
            have hm2c : (-9223372036854775808 : Int) ≤ (m2 : Int) := by omega
            have hPc : (-9223372036854775808 : Int) ≤ (P : Int) := by omega
            have HB5 := Lib.hid hb5
            obtain ⟨SS, hSS⟩ : ∃ SS, srcB K W = SS := ⟨_, rfl⟩
            rw [hSS] at hconv cS hszz
            clear hown5 hg5 hb5 HR HB HS HT hsz hSS hroom hjz hNz
            go_wp2_with (fail)
            refine cS.mono ?_
            rintro e w6 ⟨v, rfl, hb6, M2, rfl, hrow6⟩
            clear cS hconv
            have htk : toksOf K W = Tk.mk 0 3 kOp wNot :: (if W.size = 0 then [] else [Tk.mk P N (kind2 W) W]) ++ [Tk.mk m2 N eofT ⟨#[]⟩] := by
              unfold toksOf; rw [hN, hP, hm2]
            have HN4 := Lib.hid (show N ≤ 200000 ∧ 4 ≤ N ∧ P ≤ N ∧ m2 ≤ N from ⟨hN8, hN4, by omega, by omega⟩)
            have ct0 := fun W2 => isTok_yes ⟨0, 3, kOp, wNot⟩ W2
            have ct1 := fun W2 => isTok_yes ⟨m2, N, eofT, ⟨#[]⟩⟩ W2
            have ct2 := fun W2 => isTok_yes ⟨P, N, kind2 W, W⟩ W2
            unfold Tk.val at ct0 ct1 ct2
            simp only at ct0 ct1 ct2
            have hM0 : HoldM w w6 M2 (toksOf K W).length (toksOf K W) := by
              refine ⟨HB5.out.trans (hb6.mono HB5.out.size), row_mono hrow6 HB5.out.size⟩
            obtain ⟨len, hlen⟩ : ∃ len, (toksOf K W).length = len := ⟨_, rfl⟩
            rw [hlen] at hM0 ⊢
            rw [htk] at hM0 hlen
            clear htk hrow6 hb6 HB5 hN hP hm2 hN8 hN4 hN0
            by_cases hW0 : W.size = 0
            · have hz1 : ((W.size : Int) == 0) = true := by rw [beq_iff_eq]; omega
              rw [if_pos hW0] at hM0 hlen
              have hlen2 : 2 = len := hlen
              subst hlen2
              have hM : HoldM w w6 M2 2 [Tk.mk 0 3 kOp wNot, Tk.mk m2 N eofT ⟨#[]⟩] := hM0
              clear hM0 ct2 hW0 hlen
              obtain ⟨q0, q1, q2, q3, q4, q5, q6, q7⟩ := row2 hM
              have HM := Lib.hid hM
              clear hM
              go_wp2_with (fail)
              refine (ct0 _).mono ?_
              rintro e w7 ⟨rfl, hbq⟩
              have HM := Lib.hid (HoldM.step HM.out hbq)
              clear hbq ct0 q0 q1 q2 q3 q4 q5 q6 q7
              obtain ⟨q0, q1, q2, q3, q4, q5, q6, q7⟩ := row2 HM.out
              go_wp2_with (fail)
              refine (ct1 _).mono ?_
              rintro e w8 ⟨rfl, hbq⟩
              have HM := Lib.hid (HoldM.step HM.out hbq)
              clear hbq ct1 q0 q1 q2 q3 q4 q5 q6 q7
              go_wp2
              go_ret
              exact ⟨rfl, HM.out.1⟩
            · have hz1 : ((W.size : Int) == 0) = false := by rw [beq_eq_false_iff_ne]; omega
              rw [if_neg hW0] at hM0 hlen
              have hlen2 : 3 = len := hlen
              subst hlen2
              have hM : HoldM w w6 M2 3 [Tk.mk 0 3 kOp wNot, Tk.mk P N (kind2 W) W, Tk.mk m2 N eofT ⟨#[]⟩] := hM0
              clear hM0 hW0 hlen
              have cw := fun W2 => wkind_any W false W2
              have cg := fun W2 => neg_any W W2
              have hkd : (isNeg W = true ∧ kind2 W = kOp) ∨ (isNeg W = false ∧ (W.toList == [110, 111, 116]) = true ∧ kind2 W = kOp) ∨ (isNeg W = false ∧ (W.toList == [110, 111, 116]) = false ∧ kind2 W = wkind W false) := by
                unfold kind2
                cases hg : isNeg W with
                | true => exact Or.inl ⟨rfl, if_pos (Or.inl rfl)⟩
                | false =>
                  by_cases hN : W = wNot
                  · exact Or.inr (Or.inl ⟨rfl, lit_yes (l := [110, 111, 116]) hN, if_pos (Or.inr hN)⟩)
                  · exact Or.inr (Or.inr ⟨rfl, lit_no (l := [110, 111, 116]) hN, if_neg (fun h1 => h1.elim (fun e => Bool.noConfusion e) hN)⟩)
              obtain ⟨D, hD⟩ : ∃ D, kind2 W = D := ⟨_, rfl⟩
              rw [hD] at hM ct2 hkd
              have HM := Lib.hid hM
              clear hM hD
              rcases hkd with ⟨g1, rfl⟩ | ⟨g1, g2, rfl⟩ | ⟨g1, g2, rfl⟩
              all_goals
                rw [g1] at cg
                clear g1
                obtain ⟨q0, q1, q2, q3, q4, q5, q6, q7, q8, q9, q10, q11⟩ := row3 HM.out
                go_wp2_with (fail)
                refine (cw _).mono ?_
                rintro e w9 ⟨rfl, rfl⟩
                go_wp2_with (fail)
                refine (cg _).mono ?_
                rintro e w9 ⟨rfl, rfl⟩
                clear cw cg
                go_wp2_with (fail)
                refine (ct0 _).mono ?_
                rintro e w10 ⟨rfl, hbq⟩
                have HM := Lib.hid (HoldM.step HM.out hbq)
                clear hbq ct0 q0 q1 q2 q3 q4 q5 q6 q7 q8 q9 q10 q11
                obtain ⟨q0, q1, q2, q3, q4, q5, q6, q7, q8, q9, q10, q11⟩ := row3 HM.out
                go_wp2_with (fail)
                refine (ct2 _).mono ?_
                rintro e w11 ⟨rfl, hbq⟩
                have HM := Lib.hid (HoldM.step HM.out hbq)
                clear hbq ct2 q0 q1 q2 q3 q4 q5 q6 q7 q8 q9 q10 q11
                obtain ⟨q0, q1, q2, q3, q4, q5, q6, q7, q8, q9, q10, q11⟩ := row3 HM.out
                go_wp2_with (fail)
                refine (ct1 _).mono ?_
                rintro e w12 ⟨rfl, hbq⟩
                have HM := Lib.hid (HoldM.step HM.out hbq)
                clear hbq ct1 q0 q1 q2 q3 q4 q5 q6 q7 q8 q9 q10 q11
                go_wp2
                go_ret
                exact ⟨rfl, HM.out.1⟩

end Go.Proofs.YtdlkdojgbiahgaaGreatFmt.Lx
