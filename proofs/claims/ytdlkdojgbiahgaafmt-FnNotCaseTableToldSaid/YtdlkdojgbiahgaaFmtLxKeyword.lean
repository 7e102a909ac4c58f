/-
  The walk of FnIdentifierKeywordTable: it returns true for every input. Condition: the tables are laid.
-/
import Derived.Test.YtdlkdojgbiahgaaFmtLxKinds
namespace Go.Proofs.YtdlkdojgbiahgaaFmt.Lx
open Go.RowKit Go.Lib

/-- A lexer from zzOn, with its ring. -/
theorem fresh_LQ {s : ByteArray} {w w' : World} {L R : Nat} (hT : Anch w.heap.size w) (hb : Below w.heap.size w w') (hL : w.heap.size ≤ L) (hR : w.heap.size ≤ R) (hne : L ≠ R) (hx : LX 64 w' L ⟨rootV, s, .pointer (some ⟨R, 0, none⟩), .pointer none, 0, 0, 0, 0, false, false⟩) (hr : RN 79 w' R) :
    LQ w.heap.size ⟨rootV, s, .pointer (some ⟨R, 0, none⟩), .pointer none, 0, 0, 0, 0, false, false⟩ w w' L R 0 0 (List.replicate 10 Tk.none) :=
  ⟨hb, hT.below hb, hL, hR, hne, hx, rfl, Or.inr ⟨hr, rfl, rfl, rfl⟩⟩

/-- What ZZIdentifier hands back. -/
def IdOut (s : ByteArray) (dis : Bool) (w : World) (e : Ending) (w' : World) : Prop :=
  Below w.heap.size w w' ∧
  ((s.extract 0 (wrd s 0) = wNot ∧ e = .returned (.tuple #[.int .i64 0, Tk.none.val, .int .i64 0, .int .i64 (wrd s 0 : Int)])) ∨
   (s.extract 0 (wrd s 0) ≠ wNot ∧ e = .returned (.tuple #[.int .i64 1, (Tk.mk 0 (wrd s 0) (wkind (s.extract 0 (wrd s 0)) dis) (s.extract 0 (wrd s 0))).val, .int .i64 (wrd s 0 : Int), .int .i64 (wrd s 0 : Int)])))

set_option maxHeartbeats 4000000 in
theorem zzIdent_any (s : ByteArray) (dis : Bool) (w : World) (hT : Tabs w) (hs : s.size ≤ 1073741824) (hE : wrd s 0 < s.size → bt s (wrd s 0) < 128) :
    Calls Tryf.prog 14 #[.string s, .bool dis] w (IdOut s dis w) := by
  unfold IdOut
  have HA : Hid (Anch w.heap.size w) := Anch.start hT
  obtain ⟨E, hEq⟩ : ∃ E, wrd s 0 = E := ⟨_, rfl⟩
  obtain ⟨W, hW⟩ : ∃ W, s.extract 0 E = W := ⟨_, rfl⟩
  have ci := fun (x : LS) W0 w L R l (h : LQ (World.heap W0).size (x.at 0 0) W0 w L R 0 0 l) (he : x.eof = false) (h0 : x.sb = 0) (h1 : x.s = s) => ident_LQ (World.heap W0).size x W0 w L R 0 0 l 0 h (by omega) he (by omega) (Nat.zero_le _) (by rw [h1]; exact hs) (by rw [h1]; exact hE)
  rw [hEq, hW]
  have HI := Lib.hid ci
  have HQ := Lib.hid hEq
  have HW := Lib.hid hW
  clear hT hE hEq hW ci
  go_enter Tryf.func14, Tryf.ntmps14
  go_wp2_with (fail)
  generalize hV : w.alloc _ = V
  have hbV : Below w.heap.size w V := by rw [← hV]; exact (Below.refl _ _).alloc (Nat.le_refl _) _
  obtain ⟨K, hK⟩ : ∃ K, w.heap.size = K := ⟨_, rfl⟩
  have hblk : ∃ T : Nat, V.heap[K]? = some (.cells #[.int .i64 0, .int .i64 0, .string ⟨#[]⟩, .string ⟨#[]⟩] T (0, 0)) := by rw [← hV, ← hK]; exact ⟨_, alloc_new w _⟩
  have hVs : V.heap.size = K + 1 := by rw [← hV, ← hK]; simp
  have HV : Hid (Anch V.heap.size V) := Anch.start (HA.out.below hbV).tabs
  have HS := Lib.hid hVs
  have HK := Lib.hid hK
  rw [hK]
  rw [hK] at hbV
  clear hV HA hK hVs
  refine (fresh88 s _).mono ?_
  rintro e w1 ⟨L, R, rfl, hb, hL, hR, hne, hx, hr⟩
  have hq := fresh_LQ HV.out hb hL hR hne hx hr
  have c9 := hx.c9
  simp only at c9
  have f9 := hx.f 9
  have hq2 := hq.step ((Ch.refl [L] w1).setCell (p := ⟨L, 9, none⟩) (Or.inl (by simp)) (.bool dis)) (hx.s9 dis) rfl
  have hii := HI.out ⟨rootV, s, .pointer (some ⟨R, 0, none⟩), .pointer none, 0, 0, 0, 0, false, dis⟩ _ _ _ _ _ hq2 rfl rfl rfl
  simp only [HQ.out, HW.out] at hii
  clear hq hq2 hx hr hb HI
  go_wp2_with (fail)
  refine hii.mono ?_
  rintro e w2 hid
  clear hii HQ HW c9 f9
  have hKL : K < L := by have := HS.out; omega
  rcases hid with ⟨h1, rfl, h2⟩ | ⟨h1, rfl, h2⟩
  · have hq : LQ V.heap.size ⟨rootV, s, .pointer (some ⟨R, 0, none⟩), .pointer none, 0, 0, E, E, false, dis⟩ V w2 L R 0 0 (List.replicate 10 Tk.none) := h2
    have H1 := Lib.hid h1
    clear h1 h2
    have c2 := hq.lx.c2
    simp only at c2
    have cl := len_LQ _ _ _ _ _ _ _ _ _ hq
    have cn := none_LQ _ _ _ _ _ _ _ _ hq
    clear hq
    go_wp2_with (fail)
    refine cl.mono ?_
    rintro e w3 ⟨rfl, rfl⟩
    go_wp2_with (fail)
    refine cn.mono ?_
    rintro e w3 ⟨rfl, hq⟩
    clear cl cn c2
    unfold Tk.val
    have hblk2 : ∃ T : Nat, w3.heap[K]? = some (.cells #[.int .i64 0, .int .i64 0, .string ⟨#[]⟩, .string ⟨#[]⟩] T (0, 0)) := by
      obtain ⟨T, hT⟩ := hblk
      have hlt := HS.out
      exact ⟨T, (hq.bel.block K (by omega)).trans hT⟩
    have hK3 : K < w3.heap.size := block_lt hblk2.choose_spec
    go_wp2_with (fail)
    obtain ⟨N, hN⟩ : ∃ N, w3.heap.size = N := ⟨_, rfl⟩
    generalize hX : w3.alloc _ = X
    have hbX : Below w3.heap.size w3 X := by rw [← hX]; exact (Below.refl _ _).alloc (Nat.le_refl _) _
    have hqX := hq.below hbX
    have k0 : X.cell? ⟨K, 0, none⟩ = some (.int .i64 0) := by obtain ⟨T, hT⟩ := hblk2; rw [← hX]; exact cell_of (alloc_old _ hT) rfl
    have k1 : X.cell? ⟨K, 1, none⟩ = some (.int .i64 0) := by obtain ⟨T, hT⟩ := hblk2; rw [← hX]; exact cell_of (alloc_old _ hT) rfl
    have k2 : X.cell? ⟨K, 2, none⟩ = some (.string ⟨#[]⟩) := by obtain ⟨T, hT⟩ := hblk2; rw [← hX]; exact cell_of (alloc_old _ hT) rfl
    have k3 : X.cell? ⟨K, 3, none⟩ = some (.string ⟨#[]⟩) := by obtain ⟨T, hT⟩ := hblk2; rw [← hX]; exact cell_of (alloc_old _ hT) rfl
    have g0 : X.frozen? ⟨K, 0, none⟩ = false := by obtain ⟨T, hT⟩ := hblk2; rw [← hX]; exact free_of (alloc_old _ hT)
    have g1 : X.frozen? ⟨K, 1, none⟩ = false := by obtain ⟨T, hT⟩ := hblk2; rw [← hX]; exact free_of (alloc_old _ hT)
    have g2 : X.frozen? ⟨K, 2, none⟩ = false := by obtain ⟨T, hT⟩ := hblk2; rw [← hX]; exact free_of (alloc_old _ hT)
    have g3 : X.frozen? ⟨K, 3, none⟩ = false := by obtain ⟨T, hT⟩ := hblk2; rw [← hX]; exact free_of (alloc_old _ hT)
    have n0 : X.cell? ⟨N, 0, none⟩ = some (.int .i64 (0)) := by rw [← hX, ← hN]; exact cell_of (alloc_new w3 _) rfl
    have n1 : X.cell? ⟨N, 1, none⟩ = some (.int .i64 (0)) := by rw [← hX, ← hN]; exact cell_of (alloc_new w3 _) rfl
    have n2 : X.cell? ⟨N, 2, none⟩ = some (.string ⟨#[]⟩) := by rw [← hX, ← hN]; exact cell_of (alloc_new w3 _) rfl
    have n3 : X.cell? ⟨N, 3, none⟩ = some (.string ⟨#[]⟩) := by rw [← hX, ← hN]; exact cell_of (alloc_new w3 _) rfl
    obtain ⟨T, hT⟩ := hblk2
    have hXK : X.heap[K]? = some (.cells #[.int .i64 0, .int .i64 0, .string ⟨#[]⟩, .string ⟨#[]⟩] T (0, 0)) := by rw [← hX]; exact alloc_old _ hT
    have hend := set_of (i := 3) (set_of (i := 2) (set_of (i := 1) (set_of (i := 0) hXK (.int .i64 (0))) (.int .i64 (0))) (.string ⟨#[]⟩)) (.string ⟨#[]⟩)
    have z0 := Lib.hid (cell_of (i := 0) (v := .int .i64 (0)) hend rfl)
    have z1 := Lib.hid (cell_of (i := 1) (v := .int .i64 (0)) hend rfl)
    have z2 := Lib.hid (cell_of (i := 2) (v := .string ⟨#[]⟩) hend rfl)
    have z3 := Lib.hid (cell_of (i := 3) (v := .string ⟨#[]⟩) hend rfl)
    rw [hN]
    have hNK : N ≠ K := by omega
    have d4 := hqX.lx.c4
    have d6 := hqX.lx.c6
    simp only at d4 d6
    have hfin : Below K w X := by
      have := HS.out
      exact hbV.trans (hqX.bel.mono (by omega))
    have HZ := Lib.hid hfin
    clear hX hbX hq hqX hblk hT hXK hend hN hfin hbV hK3
    go_region
    all_goals go_wp2
    all_goals
      refine bodyPost_ret (v := .tuple #[.int .i64 0, .agg #[.int .i64 (0), .int .i64 (0), .string ⟨#[]⟩, .string ⟨#[]⟩], .int .i64 (0), .int .i64 (E : Int)]) (by simp [results, Tryf.results14, go_sem, z0.out, z1.out, z2.out, z3.out]) rfl ⟨?_, Or.inl ⟨H1.out, rfl⟩⟩
      rw [HK.out]
      exact ((((HZ.out.setCell (p := ⟨K, 0, none⟩) (Nat.le_refl _) _).setCell (p := ⟨K, 1, none⟩) (Nat.le_refl _) _).setCell (p := ⟨K, 2, none⟩) (Nat.le_refl _) _).setCell (p := ⟨K, 3, none⟩) (Nat.le_refl _) _).drew
  · have hq : LQ V.heap.size ⟨rootV, s, .pointer (some ⟨R, 0, none⟩), .pointer none, E, E, E, E, false, dis⟩ V w2 L R 0 1 ((List.replicate 10 Tk.none).set 0 ⟨0, E, wkind W dis, W⟩) := h2
    have H1 := Lib.hid h1
    clear h1 h2
    have c2 := hq.lx.c2
    simp only at c2
    have cl := len_LQ _ _ _ _ _ _ _ _ _ hq
    have cn := take_LQ _ _ _ _ _ _ 0 0 _ ⟨0, E, wkind W dis, W⟩ hq (by omega) (by omega) rfl
    clear hq
    go_wp2_with (fail)
    refine cl.mono ?_
    rintro e w3 ⟨rfl, rfl⟩
    go_wp2_with (fail)
    refine cn.mono ?_
    rintro e w3 ⟨rfl, hq⟩
    clear cl cn c2
    unfold Tk.val
    simp only
    have hblk2 : ∃ T : Nat, w3.heap[K]? = some (.cells #[.int .i64 0, .int .i64 0, .string ⟨#[]⟩, .string ⟨#[]⟩] T (0, 0)) := by
      obtain ⟨T, hT⟩ := hblk
      have hlt := HS.out
      exact ⟨T, (hq.bel.block K (by omega)).trans hT⟩
    have hK3 : K < w3.heap.size := block_lt hblk2.choose_spec
    go_wp2_with (fail)
    obtain ⟨N, hN⟩ : ∃ N, w3.heap.size = N := ⟨_, rfl⟩
    generalize hX : w3.alloc _ = X
    have hbX : Below w3.heap.size w3 X := by rw [← hX]; exact (Below.refl _ _).alloc (Nat.le_refl _) _
    have hqX := hq.below hbX
    have k0 : X.cell? ⟨K, 0, none⟩ = some (.int .i64 0) := by obtain ⟨T, hT⟩ := hblk2; rw [← hX]; exact cell_of (alloc_old _ hT) rfl
    have k1 : X.cell? ⟨K, 1, none⟩ = some (.int .i64 0) := by obtain ⟨T, hT⟩ := hblk2; rw [← hX]; exact cell_of (alloc_old _ hT) rfl
    have k2 : X.cell? ⟨K, 2, none⟩ = some (.string ⟨#[]⟩) := by obtain ⟨T, hT⟩ := hblk2; rw [← hX]; exact cell_of (alloc_old _ hT) rfl
    have k3 : X.cell? ⟨K, 3, none⟩ = some (.string ⟨#[]⟩) := by obtain ⟨T, hT⟩ := hblk2; rw [← hX]; exact cell_of (alloc_old _ hT) rfl
    have g0 : X.frozen? ⟨K, 0, none⟩ = false := by obtain ⟨T, hT⟩ := hblk2; rw [← hX]; exact free_of (alloc_old _ hT)
    have g1 : X.frozen? ⟨K, 1, none⟩ = false := by obtain ⟨T, hT⟩ := hblk2; rw [← hX]; exact free_of (alloc_old _ hT)
    have g2 : X.frozen? ⟨K, 2, none⟩ = false := by obtain ⟨T, hT⟩ := hblk2; rw [← hX]; exact free_of (alloc_old _ hT)
    have g3 : X.frozen? ⟨K, 3, none⟩ = false := by obtain ⟨T, hT⟩ := hblk2; rw [← hX]; exact free_of (alloc_old _ hT)
    have n0 : X.cell? ⟨N, 0, none⟩ = some (.int .i64 (0)) := by rw [← hX, ← hN]; exact cell_of (alloc_new w3 _) rfl
    have n1 : X.cell? ⟨N, 1, none⟩ = some (.int .i64 (E)) := by rw [← hX, ← hN]; exact cell_of (alloc_new w3 _) rfl
    have n2 : X.cell? ⟨N, 2, none⟩ = some (.string (wkind W dis)) := by rw [← hX, ← hN]; exact cell_of (alloc_new w3 _) rfl
    have n3 : X.cell? ⟨N, 3, none⟩ = some (.string W) := by rw [← hX, ← hN]; exact cell_of (alloc_new w3 _) rfl
    obtain ⟨T, hT⟩ := hblk2
    have hXK : X.heap[K]? = some (.cells #[.int .i64 0, .int .i64 0, .string ⟨#[]⟩, .string ⟨#[]⟩] T (0, 0)) := by rw [← hX]; exact alloc_old _ hT
    have hend := set_of (i := 3) (set_of (i := 2) (set_of (i := 1) (set_of (i := 0) hXK (.int .i64 (0))) (.int .i64 (E))) (.string (wkind W dis))) (.string W)
    have z0 := Lib.hid (cell_of (i := 0) (v := .int .i64 (0)) hend rfl)
    have z1 := Lib.hid (cell_of (i := 1) (v := .int .i64 (E)) hend rfl)
    have z2 := Lib.hid (cell_of (i := 2) (v := .string (wkind W dis)) hend rfl)
    have z3 := Lib.hid (cell_of (i := 3) (v := .string W) hend rfl)
    rw [hN]
    have hNK : N ≠ K := by omega
    have d4 := hqX.lx.c4
    have d6 := hqX.lx.c6
    simp only at d4 d6
    have hfin : Below K w X := by
      have := HS.out
      exact hbV.trans (hqX.bel.mono (by omega))
    have HZ := Lib.hid hfin
    clear hX hbX hq hqX hblk hT hXK hend hN hfin hbV hK3
    go_region
    all_goals go_wp2
    all_goals
      refine bodyPost_ret (v := .tuple #[.int .i64 1, .agg #[.int .i64 (0), .int .i64 (E), .string (wkind W dis), .string W], .int .i64 ((E : Int)), .int .i64 (E : Int)]) (by simp [results, Tryf.results14, go_sem, z0.out, z1.out, z2.out, z3.out]) rfl ⟨?_, Or.inr ⟨H1.out, rfl⟩⟩
      rw [HK.out]
      exact ((((HZ.out.setCell (p := ⟨K, 0, none⟩) (Nat.le_refl _) _).setCell (p := ⟨K, 1, none⟩) (Nat.le_refl _) _).setCell (p := ⟨K, 2, none⟩) (Nat.le_refl _) _).setCell (p := ⟨K, 3, none⟩) (Nat.le_refl _) _).drew

theorem kbytes_ok (s : ByteArray) (dis : Bool) (w : World) (h : s.size ≤ 1048576) : Calls Tryf.prog 11 #[.string s, .bool dis] w fun e w' => e = .returned (.bool true) ∧ w = w' := by
  have h1 : ¬ (1048576 < (s.size : Int)) := by omega
  go_enter Tryf.func11, Tryf.ntmps11
  go_wp2
  go_ret
  exact ⟨rfl, rfl⟩
theorem kbytes_no (s : ByteArray) (dis : Bool) (w : World) (h : ¬ s.size ≤ 1048576) : Calls Tryf.prog 11 #[.string s, .bool dis] w fun e w' => e = .returned (.bool false) ∧ w = w' := by
  have h1 : 1048576 < (s.size : Int) := by omega
  go_enter Tryf.func11, Tryf.ntmps11
  go_wp2
  go_ret
  exact ⟨rfl, rfl⟩

/-- A token in a variable of its own; what was made since w0 besides. -/
def HoldT (w0 w : World) (N : Nat) (a b : Int) (k x : ByteArray) : Prop := Below w0.heap.size w0 w ∧ ∃ T : Nat, w.heap[N]? = some (.cells #[.int .i64 a, .int .i64 b, .string k, .string x] T (0, 0))
theorem HoldT.step {w0 w w' : World} {N : Nat} {a b : Int} {k x : ByteArray} (h : HoldT w0 w N a b k x) (hb : Below w.heap.size w w') : HoldT w0 w' N a b k x := by
  obtain ⟨h1, T, h2⟩ := h
  exact ⟨h1.trans (hb.mono h1.size), T, (hb.block _ (block_lt h2)).trans h2⟩
theorem HoldT.drew {w0 w : World} {N : Nat} {a b : Int} {k x : ByteArray} (h : HoldT w0 w N a b k x) : HoldT w0 w.drew N a b k x := ⟨h.1.drew, h.2⟩
theorem HoldT.all {w0 w : World} {N : Nat} {a b : Int} {k x : ByteArray} (h : HoldT w0 w N a b k x) : w.cell? ⟨N, 0, none⟩ = some (.int .i64 a) ∧ w.cell? ⟨N, 1, none⟩ = some (.int .i64 b) ∧ w.cell? ⟨N, 2, none⟩ = some (.string k) ∧ w.cell? ⟨N, 3, none⟩ = some (.string x) ∧ HoldT w0 w N a b k x := by
  obtain ⟨h1, T, h2⟩ := h
  exact ⟨cell_of h2 rfl, cell_of h2 rfl, cell_of h2 rfl, cell_of h2 rfl, h1, T, h2⟩

def FnK (s : ByteArray) (dis : Bool) (w : World) : Prop := Calls Tryf.prog 4 #[.string s, .bool dis] w fun e w' => e = .returned (.bool true) ∧ Below w.heap.size w w'

theorem key_big (s : ByteArray) (dis : Bool) (w : World) (h : ¬ s.size ≤ 65536) : FnK s dis w := by
  unfold FnK
  have h2 : 65536 < (s.size : Int) := by omega
  by_cases hb : s.size ≤ 1048576
  · have cb := fun W => kbytes_ok s dis W hb
    clear hb
    go_enter Tryf.func4, Tryf.ntmps4
    go_wp2_with (go_at_call 11; refine (cb _).mono ?_; rintro e w1 ⟨rfl, rfl⟩)
    go_ret
    exact ⟨rfl, Below.refl _ _⟩
  · have cb := fun W => kbytes_no s dis W hb
    clear hb
    go_enter Tryf.func4, Tryf.ntmps4
    go_wp2_with (go_at_call 11; refine (cb _).mono ?_; rintro e w1 ⟨rfl, rfl⟩)
    go_ret
    exact ⟨rfl, Below.refl _ _⟩

set_option maxRecDepth 100000 in
set_option maxHeartbeats 4000000 in
theorem key_in (s : ByteArray) (dis : Bool) (w : World) (hT : Tabs w) (h : s.size ≤ 65536) : FnK s dis w := by
  unfold FnK
  have cb := fun W => kbytes_ok s dis W (by omega)
  have h1 : ¬ (65536 < (s.size : Int)) := by omega
  by_cases h0 : s.size = 0
  · have hz : ((s.size : Int) == 0) = true := by rw [beq_iff_eq]; omega
    clear h h0
    go_enter Tryf.func4, Tryf.ntmps4
    go_wp2_with (go_at_call 11; refine (cb _).mono ?_; rintro e w1 ⟨rfl, rfl⟩)
    go_ret
    exact ⟨rfl, Below.refl _ _⟩
  have hp : 0 < s.size := by omega
  have hpz : (0 : Int) < (s.size : Int) := by omega
  have hz : ((s.size : Int) == 0) = false := by rw [beq_eq_false_iff_ne]; omega
  have b0 : bt s 0 = (s[0]'hp).toNat := bt_get s 0 hp
  generalize hx0 : s[0]'hp = x0 at b0
  have ca := fun W => an8_any x0.toNat W x0.toNat_lt
  cases ha : an8 x0.toNat with
  | false =>
    rw [ha] at ca
    clear h h0 ha b0
    go_enter Tryf.func4, Tryf.ntmps4
    go_wp2_with (first | (go_at_call 11; refine (cb _).mono ?_; rintro e w1 ⟨rfl, rfl⟩) | (go_at_call 12; refine (ca _).mono ?_; rintro e w2 ⟨rfl, hb2⟩))
    go_ret
    exact ⟨rfl, hb2⟩
  | true =>
    rw [ha] at ca
    have cr := fun W => wrd_run s 0 W (Nat.zero_le _) (by omega)
    have hle := wrd_le s _ 0 (Nat.zero_le _) rfl
    have ci := fun W (hW : Tabs W) hE => zzIdent_any s dis W hW (by omega) hE
    obtain ⟨E, hEq⟩ : ∃ E, wrd s 0 = E := ⟨_, rfl⟩
    unfold IdOut at ci
    simp only [hEq] at ci cr hle
    have hEz : (E : Int) ≤ (s.size : Int) := by omega
    have hsz := size_take s E hle.2
    obtain ⟨W, hW⟩ : ∃ W, s.extract 0 E = W := ⟨_, rfl⟩
    rw [hW] at hsz
    simp only [hW] at ci
    have HC := Lib.hid ci
    have HT := Lib.hid hT
    have HW := Lib.hid hW
    have HZ := Lib.hid hsz
    have HQ := Lib.hid hEq
    clear ci h0 ha b0 hT hsz hEq
    by_cases hlt : E < s.size
    · have hltz : (E : Int) < (s.size : Int) := by omega
      have b1 : bt s E = (s[E]'hlt).toNat := bt_get s E hlt
      generalize hx1 : s[E]'hlt = x1 at b1
      by_cases h8 : 128 ≤ x1.toNat
      · have h8z : 128 ≤ (x1.toNat : Int) := by omega
        clear b1 HC HT HW HZ HQ hW
        go_enter Tryf.func4, Tryf.ntmps4
        go_wp2_with (first | (go_at_call 11; refine (cb _).mono ?_; rintro e w1 ⟨rfl, rfl⟩) | (go_at_call 12; refine (ca _).mono ?_; rintro e w2 ⟨rfl, hb2⟩) | (go_at_call 13; refine (cr _).mono ?_; rintro e w3 ⟨rfl, hb3⟩))
        go_ret
        exact ⟨rfl, hb2.trans (hb3.mono hb2.size)⟩
      · have h8z : ¬ 128 ≤ (x1.toNat : Int) := by omega
        have hE8 : Hid (E < s.size → bt s E < 128) := fun _ => by omega
        clear b1
        clear HW HQ
        go_enter Tryf.func4, Tryf.ntmps4
        go_wp2_with (first | (go_at_call 11; refine (cb _).mono ?_; rintro e w1 ⟨rfl, rfl⟩) | (go_at_call 12; refine (ca _).mono ?_; rintro e w2 ⟨rfl, hb2⟩) | (go_at_call 13; refine (cr _).mono ?_; rintro e w3 ⟨rfl, hb3⟩))
        have hb23 := hb2.trans (hb3.mono hb2.size)
        have c4 := HC.out _ (HT.out.below hb23) hE8.out
        clear HC HT hE8 cb ca cr hb2 hb3
        refine c4.mono ?_
        rintro e w4 ⟨hb4, hid⟩
        have hb24 := hb23.trans (hb4.mono hb23.size)
        clear hb23 hb4 c4 hW
        rcases hid with ⟨q, rfl⟩ | ⟨q, rfl⟩
        · have f := lit_yes (l := [110, 111, 116]) q
          have hE3 : ((E : Int) == 3) = true := by
            rw [beq_iff_eq]
            have := HZ.out
            rw [q] at this
            have h3 : wNot.size = 3 := rfl
            omega
          clear q HZ
          unfold Tk.val
          go_wp2
          go_ret
          exact ⟨rfl, hb24.alloc hb24.size _⟩
        · have f := lit_no (l := [110, 111, 116]) q
          have cw := fun W2 => wkind_any W dis W2
          have ct := fun W2 => isTok_yes ⟨0, E, wkind W dis, W⟩ W2
          clear q HZ
          unfold Tk.val at ct ⊢
          simp only at ct
          go_wp2_with (fail)
          generalize hX : w4.alloc _ = X
          obtain ⟨N, hN⟩ : ∃ N, w4.heap.size = N := ⟨_, rfl⟩
          have hold : HoldT w X N 0 (E : Int) (wkind W dis) W := by
            refine ⟨by rw [← hX]; exact hb24.alloc hb24.size _, ?_⟩
            rw [← hX, ← hN]
            exact ⟨_, alloc_new w4 _⟩
          rw [hN]
          clear hX hN hb24
          generalize wkind W dis = D at *
          go_region_held3 (fun w' => w'.cell? ⟨N, 0, none⟩ = some (.int .i64 0) ∧ w'.cell? ⟨N, 1, none⟩ = some (.int .i64 (E : Int)) ∧ w'.cell? ⟨N, 2, none⟩ = some (.string D) ∧ w'.cell? ⟨N, 3, none⟩ = some (.string W) ∧ HoldT w w' N 0 (E : Int) D W)
            (first | exact hold.drew.all | exact (HoldT.step ‹_ ∧ _ ∧ _ ∧ _ ∧ HoldT _ _ _ _ _ _ _›.2.2.2.2 hb).all | exact (‹_ ∧ _ ∧ _ ∧ _ ∧ HoldT _ _ _ _ _ _ _›))
            (first | (go_at_call 16; refine (cw _).mono ?_; rintro e w' ⟨rfl, rfl⟩) | (go_at_call 15; refine (ct _).mono ?_; rintro e w' ⟨rfl, hb⟩))
          have hfin := (‹_ ∧ _ ∧ _ ∧ _ ∧ HoldT _ _ _ _ _ _ _›).2.2.2.2.1
          go_wp2
          go_ret
          exact ⟨rfl, hfin⟩
    · have hltz : ¬ (E : Int) < (s.size : Int) := by omega
      have hE8 : Hid (E < s.size → bt s E < 128) := fun h => absurd h hlt
      clear HW HQ
      go_enter Tryf.func4, Tryf.ntmps4
      go_wp2_with (first | (go_at_call 11; refine (cb _).mono ?_; rintro e w1 ⟨rfl, rfl⟩) | (go_at_call 12; refine (ca _).mono ?_; rintro e w2 ⟨rfl, hb2⟩) | (go_at_call 13; refine (cr _).mono ?_; rintro e w3 ⟨rfl, hb3⟩))
      have hb23 := hb2.trans (hb3.mono hb2.size)
      have c4 := HC.out _ (HT.out.below hb23) hE8.out
      clear HC HT hE8 cb ca cr hb2 hb3
      refine c4.mono ?_
      rintro e w4 ⟨hb4, hid⟩
      have hb24 := hb23.trans (hb4.mono hb23.size)
      clear hb23 hb4 c4 hW
      rcases hid with ⟨q, rfl⟩ | ⟨q, rfl⟩
      · have f := lit_yes (l := [110, 111, 116]) q
        have hE3 : ((E : Int) == 3) = true := by
          rw [beq_iff_eq]
          have := HZ.out
          rw [q] at this
          have h3 : wNot.size = 3 := rfl
          omega
        clear q HZ
        unfold Tk.val
        go_wp2
        go_ret
        exact ⟨rfl, hb24.alloc hb24.size _⟩
      · have f := lit_no (l := [110, 111, 116]) q
        have cw := fun W2 => wkind_any W dis W2
        have ct := fun W2 => isTok_yes ⟨0, E, wkind W dis, W⟩ W2
        clear q HZ
        unfold Tk.val at ct ⊢
        simp only at ct
        go_wp2_with (fail)
        generalize hX : w4.alloc _ = X
        obtain ⟨N, hN⟩ : ∃ N, w4.heap.size = N := ⟨_, rfl⟩
        have hold : HoldT w X N 0 (E : Int) (wkind W dis) W := by
          refine ⟨by rw [← hX]; exact hb24.alloc hb24.size _, ?_⟩
          rw [← hX, ← hN]
          exact ⟨_, alloc_new w4 _⟩
        rw [hN]
        clear hX hN hb24
        generalize wkind W dis = D at *
        go_region_held3 (fun w' => w'.cell? ⟨N, 0, none⟩ = some (.int .i64 0) ∧ w'.cell? ⟨N, 1, none⟩ = some (.int .i64 (E : Int)) ∧ w'.cell? ⟨N, 2, none⟩ = some (.string D) ∧ w'.cell? ⟨N, 3, none⟩ = some (.string W) ∧ HoldT w w' N 0 (E : Int) D W)
          (first | exact hold.drew.all | exact (HoldT.step ‹_ ∧ _ ∧ _ ∧ _ ∧ HoldT _ _ _ _ _ _ _›.2.2.2.2 hb).all | exact (‹_ ∧ _ ∧ _ ∧ _ ∧ HoldT _ _ _ _ _ _ _›))
          (first | (go_at_call 16; refine (cw _).mono ?_; rintro e w' ⟨rfl, rfl⟩) | (go_at_call 15; refine (ct _).mono ?_; rintro e w' ⟨rfl, hb⟩))
        have hfin := (‹_ ∧ _ ∧ _ ∧ _ ∧ HoldT _ _ _ _ _ _ _›).2.2.2.2.1
        go_wp2
        go_ret
        exact ⟨rfl, hfin⟩

theorem key_walk (s : ByteArray) (dis : Bool) (w : World) (hT : Tabs w) :
    Calls Tryf.prog 4 #[.string s, .bool dis] w fun e w' => e = .returned (.bool true) ∧ Below w.heap.size w w' := by
  by_cases h : s.size ≤ 65536
  · exact key_in s dis w hT h
  · exact key_big s dis w h

end Go.Proofs.YtdlkdojgbiahgaaFmt.Lx
