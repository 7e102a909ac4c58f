/-
  The contract of the shim ZZIdentifier over an ASCII word, and a token in a variable of its own. Condition: the tables are laid.
-/
import Derived.Test.YtdlkdojgbiahgaaGreatFmtLxKinds
namespace Go.Proofs.YtdlkdojgbiahgaaGreatFmt.Lx
open Go.RowKit Go.Lib

/-- A lexer from zzOn, with its ring. -/
theorem fresh_LQ {s : ByteArray} {w w' : World} {L R : Nat} (hT : Anch w.heap.size w) (hb : Below w.heap.size w w') (hL : w.heap.size ≤ L) (hR : w.heap.size ≤ R) (hne : L ≠ R) (hx : LX 60 w' L ⟨rootV, s, .pointer (some ⟨R, 0, none⟩), .pointer none, 0, 0, 0, 0, false, false⟩) (hr : RN 70 w' R) :
    LQ w.heap.size ⟨rootV, s, .pointer (some ⟨R, 0, none⟩), .pointer none, 0, 0, 0, 0, false, false⟩ w w' L R 0 0 (List.replicate 10 Tk.none) :=
  ⟨hb, hT.below hb, hL, hR, hne, hx, rfl, Or.inr ⟨hr, rfl, rfl, rfl⟩, fun _ hk => hk.elim⟩

/-- What ZZIdentifier hands back. -/
def IdOut (s : ByteArray) (dis : Bool) (w : World) (e : Ending) (w' : World) : Prop :=
  Below w.heap.size w w' ∧
  ((s.extract 0 (wrd s 0) = wNot ∧ e = .returned (.tuple #[.int .i64 0, Tk.none.val, .int .i64 0, .int .i64 (wrd s 0 : Int)])) ∨
   (s.extract 0 (wrd s 0) ≠ wNot ∧ e = .returned (.tuple #[.int .i64 1, (Tk.mk 0 (wrd s 0) (wkind (s.extract 0 (wrd s 0)) dis) (s.extract 0 (wrd s 0))).val, .int .i64 (wrd s 0 : Int), .int .i64 (wrd s 0 : Int)])))

set_option maxHeartbeats 4000000 in
theorem zzIdent_any (s : ByteArray) (dis : Bool) (w : World) (hT : Tabs w) (hs : s.size ≤ 1073741824) (hE : wrd s 0 < s.size → bt s (wrd s 0) < 128) :
    Calls Tryz.prog 18 #[.string s, .bool dis] w (IdOut s dis w) := by
  unfold IdOut
  have HA : Hid (Anch w.heap.size w) := Anch.start hT
  obtain ⟨E, hEq⟩ : ∃ E, wrd s 0 = E := ⟨_, rfl⟩
  obtain ⟨W, hW⟩ : ∃ W, s.extract 0 E = W := ⟨_, rfl⟩
  have ci := fun (x : LS) W0 w L R l (h : LQ (World.heap W0).size (x.at 0 0) W0 w L R 0 0 l) (he : x.eof = false) (h0 : x.sb = 0) (h1 : x.s = s) => ident_LQ (World.heap W0).size x W0 w L R 0 0 l 0 h (by omega) he (by omega) (Nat.zero_le _) (by rw [h1]; exact hs) (by rw [h1]; exact hE)
  rw [hEq, hW]
  have HI := Lib.hid ci
  have HQ := Lib.hid hEq
  have HW := Lib.hid hW
  clear hT hE hEq hW ci
  go_enter Tryz.func18, Tryz.ntmps18
  go_wp2_with (fail)
  generalize hV : w.alloc _ = V
  have hbV : Below w.heap.size w V := by rw [← hV]; exact (Below.refl _ _).alloc (Nat.le_refl _) _
  obtain ⟨K, hK⟩ : ∃ K, w.heap.size = K := ⟨_, rfl⟩
  have hblk : ∃ T : Nat, V.heap[K]? = some (.cells #[.int .i64 0, .int .i64 0, .string ⟨#[]⟩, .string ⟨#[]⟩] T (0, 0)) := by rw [← hV, ← hK]; exact ⟨_, alloc_new w _⟩
  have hVs : V.heap.size = K + 1 := by rw [← hV, ← hK]; simp
  have HV : Hid (Anch V.heap.size V) := Anch.start (HA.out.below hbV).tabs
  have HS := Lib.hid hVs
  have HK := Lib.hid hK
  rw [hK]
  rw [hK] at hbV
  clear hV HA hK hVs
  refine (fresh88 s _).mono ?_
  rintro e w1 ⟨L, R, rfl, hb, hL, hR, hne, hx, hr⟩
  have hq := fresh_LQ HV.out hb hL hR hne hx hr
  have c9 := hx.c9
  simp only at c9
  have f9 := hx.f 9
  have hq2 := hq.step ((Ch.refl [L] w1).setCell (p := ⟨L, 9, none⟩) (Or.inl (by simp)) (.bool dis)) (hx.s9 dis) rfl
  have hii := HI.out ⟨rootV, s, .pointer (some ⟨R, 0, none⟩), .pointer none, 0, 0, 0, 0, false, dis⟩ _ _ _ _ _ hq2 rfl rfl rfl
  simp only [HQ.out, HW.out] at hii
  clear hq hq2 hx hr hb HI
  go_wp2_with (fail)
  refine hii.mono ?_
  rintro e w2 hid
  clear hii HQ HW c9 f9
  have hKL : K < L := by have := HS.out; omega
  rcases hid with ⟨h1, rfl, h2⟩ | ⟨h1, rfl, h2⟩
  · have hq : LQ V.heap.size ⟨rootV, s, .pointer (some ⟨R, 0, none⟩), .pointer none, 0, 0, E, E, false, dis⟩ V w2 L R 0 0 (List.replicate 10 Tk.none) := h2
    have H1 := Lib.hid h1
    clear h1 h2
    have c2 := hq.lx.c2
    simp only at c2
    have cl := len_LQ _ _ _ _ _ _ _ _ _ hq
    have cn := none_LQ _ _ _ _ _ _ _ _ hq
    clear hq
    go_wp2_with (fail)
    refine cl.mono ?_
    rintro e w3 ⟨rfl, rfl⟩
    go_wp2_with (fail)
    refine cn.mono ?_
    rintro e w3 ⟨rfl, hq⟩
    clear cl cn c2
    unfold Tk.val
    have hblk2 : ∃ T : Nat, w3.heap[K]? = some (.cells #[.int .i64 0, .int .i64 0, .string ⟨#[]⟩, .string ⟨#[]⟩] T (0, 0)) := by
      obtain ⟨T, hT⟩ := hblk
      have hlt := HS.out
      exact ⟨T, (hq.bel.block K (by omega)).trans hT⟩
    have hK3 : K < w3.heap.size := block_lt hblk2.choose_spec
    go_wp2_with (fail)
    obtain ⟨N, hN⟩ : ∃ N, w3.heap.size = N := ⟨_, rfl⟩
    generalize hX : w3.alloc _ = X
    have hbX : Below w3.heap.size w3 X := by rw [← hX]; exact (Below.refl _ _).alloc (Nat.le_refl _) _
    have hqX := hq.below hbX
    have k0 : X.cell? ⟨K, 0, none⟩ = some (.int .i64 0) := by obtain ⟨T, hT⟩ := hblk2; rw [← hX]; exact cell_of (alloc_old _ hT) rfl
    have k1 : X.cell? ⟨K, 1, none⟩ = some (.int .i64 0) := by obtain ⟨T, hT⟩ := hblk2; rw [← hX]; exact cell_of (alloc_old _ hT) rfl
    have k2 : X.cell? ⟨K, 2, none⟩ = some (.string ⟨#[]⟩) := by obtain ⟨T, hT⟩ := hblk2; rw [← hX]; exact cell_of (alloc_old _ hT) rfl
    have k3 : X.cell? ⟨K, 3, none⟩ = some (.string ⟨#[]⟩) := by obtain ⟨T, hT⟩ := hblk2; rw [← hX]; exact cell_of (alloc_old _ hT) rfl
    have g0 : X.frozen? ⟨K, 0, none⟩ = false := by obtain ⟨T, hT⟩ := hblk2; rw [← hX]; exact free_of (alloc_old _ hT)
    have g1 : X.frozen? ⟨K, 1, none⟩ = false := by obtain ⟨T, hT⟩ := hblk2; rw [← hX]; exact free_of (alloc_old _ hT)
    have g2 : X.frozen? ⟨K, 2, none⟩ = false := by obtain ⟨T, hT⟩ := hblk2; rw [← hX]; exact free_of (alloc_old _ hT)
    have g3 : X.frozen? ⟨K, 3, none⟩ = false := by obtain ⟨T, hT⟩ := hblk2; rw [← hX]; exact free_of (alloc_old _ hT)
    have n0 : X.cell? ⟨N, 0, none⟩ = some (.int .i64 (0)) := by rw [← hX, ← hN]; exact cell_of (alloc_new w3 _) rfl
    have n1 : X.cell? ⟨N, 1, none⟩ = some (.int .i64 (0)) := by rw [← hX, ← hN]; exact cell_of (alloc_new w3 _) rfl
    have n2 : X.cell? ⟨N, 2, none⟩ = some (.string ⟨#[]⟩) := by rw [← hX, ← hN]; exact cell_of (alloc_new w3 _) rfl
    have n3 : X.cell? ⟨N, 3, none⟩ = some (.string ⟨#[]⟩) := by rw [← hX, ← hN]; exact cell_of (alloc_new w3 _) rfl
    obtain ⟨T, hT⟩ := hblk2
    have hXK : X.heap[K]? = some (.cells #[.int .i64 0, .int .i64 0, .string ⟨#[]⟩, .string ⟨#[]⟩] T (0, 0)) := by rw [← hX]; exact alloc_old _ hT
    have hend := set_of (i := 3) (set_of (i := 2) (set_of (i := 1) (set_of (i := 0) hXK (.int .i64 (0))) (.int .i64 (0))) (.string ⟨#[]⟩)) (.string ⟨#[]⟩)
    have z0 := Lib.hid (cell_of (i := 0) (v := .int .i64 (0)) hend rfl)
    have z1 := Lib.hid (cell_of (i := 1) (v := .int .i64 (0)) hend rfl)
    have z2 := Lib.hid (cell_of (i := 2) (v := .string ⟨#[]⟩) hend rfl)
    have z3 := Lib.hid (cell_of (i := 3) (v := .string ⟨#[]⟩) hend rfl)
    rw [hN]
    have hNK : N ≠ K := by omega
    have d4 := hqX.lx.c4
    have d6 := hqX.lx.c6
    simp only at d4 d6
    have hfin : Below K w X := by
      have := HS.out
      exact hbV.trans (hqX.bel.mono (by omega))
    have HZ := Lib.hid hfin
    clear hX hbX hq hqX hblk hT hXK hend hN hfin hbV hK3
    go_region
    all_goals go_wp2
    all_goals
      refine bodyPost_ret (v := .tuple #[.int .i64 0, .agg #[.int .i64 (0), .int .i64 (0), .string ⟨#[]⟩, .string ⟨#[]⟩], .int .i64 (0), .int .i64 (E : Int)]) (by simp [results, Tryz.results18, go_sem, z0.out, z1.out, z2.out, z3.out]) rfl ⟨?_, Or.inl ⟨H1.out, rfl⟩⟩
      rw [HK.out]
      exact ((((HZ.out.setCell (p := ⟨K, 0, none⟩) (Nat.le_refl _) _).setCell (p := ⟨K, 1, none⟩) (Nat.le_refl _) _).setCell (p := ⟨K, 2, none⟩) (Nat.le_refl _) _).setCell (p := ⟨K, 3, none⟩) (Nat.le_refl _) _).drew
  · have hq : LQ V.heap.size ⟨rootV, s, .pointer (some ⟨R, 0, none⟩), .pointer none, E, E, E, E, false, dis⟩ V w2 L R 0 1 ((List.replicate 10 Tk.none).set 0 ⟨0, E, wkind W dis, W⟩) := h2
    have H1 := Lib.hid h1
    clear h1 h2
    have c2 := hq.lx.c2
    simp only at c2
    have cl := len_LQ _ _ _ _ _ _ _ _ _ hq
    have cn := take_LQ _ _ _ _ _ _ 0 0 _ ⟨0, E, wkind W dis, W⟩ hq (by omega) (by omega) rfl
    clear hq
    go_wp2_with (fail)
    refine cl.mono ?_
    rintro e w3 ⟨rfl, rfl⟩
    go_wp2_with (fail)
    refine cn.mono ?_
    rintro e w3 ⟨rfl, hq⟩
    clear cl cn c2
    unfold Tk.val
    simp only
    have hblk2 : ∃ T : Nat, w3.heap[K]? = some (.cells #[.int .i64 0, .int .i64 0, .string ⟨#[]⟩, .string ⟨#[]⟩] T (0, 0)) := by
      obtain ⟨T, hT⟩ := hblk
      have hlt := HS.out
      exact ⟨T, (hq.bel.block K (by omega)).trans hT⟩
    have hK3 : K < w3.heap.size := block_lt hblk2.choose_spec
    go_wp2_with (fail)
    obtain ⟨N, hN⟩ : ∃ N, w3.heap.size = N := ⟨_, rfl⟩
    generalize hX : w3.alloc _ = X
    have hbX : Below w3.heap.size w3 X := by rw [← hX]; exact (Below.refl _ _).alloc (Nat.le_refl _) _
    have hqX := hq.below hbX
    have k0 : X.cell? ⟨K, 0, none⟩ = some (.int .i64 0) := by obtain ⟨T, hT⟩ := hblk2; rw [← hX]; exact cell_of (alloc_old _ hT) rfl
    have k1 : X.cell? ⟨K, 1, none⟩ = some (.int .i64 0) := by obtain ⟨T, hT⟩ := hblk2; rw [← hX]; exact cell_of (alloc_old _ hT) rfl
    have k2 : X.cell? ⟨K, 2, none⟩ = some (.string ⟨#[]⟩) := by obtain ⟨T, hT⟩ := hblk2; rw [← hX]; exact cell_of (alloc_old _ hT) rfl
    have k3 : X.cell? ⟨K, 3, none⟩ = some (.string ⟨#[]⟩) := by obtain ⟨T, hT⟩ := hblk2; rw [← hX]; exact cell_of (alloc_old _ hT) rfl
    have g0 : X.frozen? ⟨K, 0, none⟩ = false := by obtain ⟨T, hT⟩ := hblk2; rw [← hX]; exact free_of (alloc_old _ hT)
    have g1 : X.frozen? ⟨K, 1, none⟩ = false := by obtain ⟨T, hT⟩ := hblk2; rw [← hX]; exact free_of (alloc_old _ hT)
    have g2 : X.frozen? ⟨K, 2, none⟩ = false := by obtain ⟨T, hT⟩ := hblk2; rw [← hX]; exact free_of (alloc_old _ hT)
    have g3 : X.frozen? ⟨K, 3, none⟩ = false := by obtain ⟨T, hT⟩ := hblk2; rw [← hX]; exact free_of (alloc_old _ hT)
    have n0 : X.cell? ⟨N, 0, none⟩ = some (.int .i64 (0)) := by rw [← hX, ← hN]; exact cell_of (alloc_new w3 _) rfl
    have n1 : X.cell? ⟨N, 1, none⟩ = some (.int .i64 (E)) := by rw [← hX, ← hN]; exact cell_of (alloc_new w3 _) rfl
    have n2 : X.cell? ⟨N, 2, none⟩ = some (.string (wkind W dis)) := by rw [← hX, ← hN]; exact cell_of (alloc_new w3 _) rfl
    have n3 : X.cell? ⟨N, 3, none⟩ = some (.string W) := by rw [← hX, ← hN]; exact cell_of (alloc_new w3 _) rfl
    obtain ⟨T, hT⟩ := hblk2
    have hXK : X.heap[K]? = some (.cells #[.int .i64 0, .int .i64 0, .string ⟨#[]⟩, .string ⟨#[]⟩] T (0, 0)) := by rw [← hX]; exact alloc_old _ hT
    have hend := set_of (i := 3) (set_of (i := 2) (set_of (i := 1) (set_of (i := 0) hXK (.int .i64 (0))) (.int .i64 (E))) (.string (wkind W dis))) (.string W)
    have z0 := Lib.hid (cell_of (i := 0) (v := .int .i64 (0)) hend rfl)
    have z1 := Lib.hid (cell_of (i := 1) (v := .int .i64 (E)) hend rfl)
    have z2 := Lib.hid (cell_of (i := 2) (v := .string (wkind W dis)) hend rfl)
    have z3 := Lib.hid (cell_of (i := 3) (v := .string W) hend rfl)
    rw [hN]
    have hNK : N ≠ K := by omega
    have d4 := hqX.lx.c4
    have d6 := hqX.lx.c6
    simp only at d4 d6
    have hfin : Below K w X := by
      have := HS.out
      exact hbV.trans (hqX.bel.mono (by omega))
    have HZ := Lib.hid hfin
    clear hX hbX hq hqX hblk hT hXK hend hN hfin hbV hK3
    go_region
    all_goals go_wp2
    all_goals
      refine bodyPost_ret (v := .tuple #[.int .i64 1, .agg #[.int .i64 (0), .int .i64 (E), .string (wkind W dis), .string W], .int .i64 ((E : Int)), .int .i64 (E : Int)]) (by simp [results, Tryz.results18, go_sem, z0.out, z1.out, z2.out, z3.out]) rfl ⟨?_, Or.inr ⟨H1.out, rfl⟩⟩
      rw [HK.out]
      exact ((((HZ.out.setCell (p := ⟨K, 0, none⟩) (Nat.le_refl _) _).setCell (p := ⟨K, 1, none⟩) (Nat.le_refl _) _).setCell (p := ⟨K, 2, none⟩) (Nat.le_refl _) _).setCell (p := ⟨K, 3, none⟩) (Nat.le_refl _) _).drew

/-- A token in a variable of its own; what was made since w0 besides. -/
def HoldT (w0 w : World) (N : Nat) (a b : Int) (k x : ByteArray) : Prop := Below w0.heap.size w0 w ∧ ∃ T : Nat, w.heap[N]? = some (.cells #[.int .i64 a, .int .i64 b, .string k, .string x] T (0, 0))
theorem HoldT.step {w0 w w' : World} {N : Nat} {a b : Int} {k x : ByteArray} (h : HoldT w0 w N a b k x) (hb : Below w.heap.size w w') : HoldT w0 w' N a b k x := by
  obtain ⟨h1, T, h2⟩ := h
  exact ⟨h1.trans (hb.mono h1.size), T, (hb.block _ (block_lt h2)).trans h2⟩
theorem HoldT.drew {w0 w : World} {N : Nat} {a b : Int} {k x : ByteArray} (h : HoldT w0 w N a b k x) : HoldT w0 w.drew N a b k x := ⟨h.1.drew, h.2⟩
theorem HoldT.all {w0 w : World} {N : Nat} {a b : Int} {k x : ByteArray} (h : HoldT w0 w N a b k x) : w.cell? ⟨N, 0, none⟩ = some (.int .i64 a) ∧ w.cell? ⟨N, 1, none⟩ = some (.int .i64 b) ∧ w.cell? ⟨N, 2, none⟩ = some (.string k) ∧ w.cell? ⟨N, 3, none⟩ = some (.string x) ∧ HoldT w0 w N a b k x := by
  obtain ⟨h1, T, h2⟩ := h
  exact ⟨cell_of h2 rfl, cell_of h2 rfl, cell_of h2 rfl, cell_of h2 rfl, h1, T, h2⟩

end Go.Proofs.YtdlkdojgbiahgaaGreatFmt.Lx
