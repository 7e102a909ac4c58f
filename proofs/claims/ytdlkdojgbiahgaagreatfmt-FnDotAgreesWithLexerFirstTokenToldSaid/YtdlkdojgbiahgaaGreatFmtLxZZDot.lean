/-
  The contracts of the shim ZZDot: dot emits one token, or none. Condition: the tables are laid.
-/
import Derived.Test.YtdlkdojgbiahgaaGreatFmtLxDot
import Derived.Test.YtdlkdojgbiahgaaGreatFmtLxZZIdent
namespace Go.Proofs.YtdlkdojgbiahgaaGreatFmt.Lx
open Go.RowKit Go.Lib

set_option maxHeartbeats 4000000 in
/-- dot emits one token. -/
theorem zzDot_one (s : ByteArray) (w : World) (E : Nat) (t : Tk) (hE : E ≤ 1073741824) (hT : Tabs w)
    (hD : ∀ (W0 W : World) (L R : Nat), LQ W0.heap.size (LS.rest s (.pointer (some ⟨R, 0, none⟩)) rootV 0 false false) W0 W L R 0 0 (List.replicate 10 Tk.none) → Calls Tryz.prog 23 #[.pointer (some ⟨L, 0, none⟩)] W fun e w' => e = .returned rootV ∧ LQ W0.heap.size (LS.rest s (.pointer (some ⟨R, 0, none⟩)) rootV E false false) W0 w' L R 0 1 ((List.replicate 10 Tk.none).set 0 t)) :
    Calls Tryz.prog 14 #[.string s] w fun e w' => e = .returned (.tuple #[.int .i64 1, t.val, .int .i64 (E : Int), .int .i64 (E : Int)]) ∧ Below w.heap.size w w' := by
  have HA : Hid (Anch w.heap.size w) := Anch.start hT
  have HI := Lib.hid hD
  clear hT hD
  go_enter Tryz.func14, Tryz.ntmps14
  go_wp2_with (fail)
  generalize hV : w.alloc _ = V
  have hbV : Below w.heap.size w V := by rw [← hV]; exact (Below.refl _ _).alloc (Nat.le_refl _) _
  obtain ⟨K, hK⟩ : ∃ K, w.heap.size = K := ⟨_, rfl⟩
  have hblk : ∃ T : Nat, V.heap[K]? = some (.cells #[.int .i64 0, .int .i64 0, .string ⟨#[]⟩, .string ⟨#[]⟩] T (0, 0)) := by rw [← hV, ← hK]; exact ⟨_, alloc_new w _⟩
  have hVs : V.heap.size = K + 1 := by rw [← hV, ← hK]; simp
  have HV : Hid (Anch V.heap.size V) := Anch.start (HA.out.below hbV).tabs
  have HS := Lib.hid hVs
  have HK := Lib.hid hK
  rw [hK]
  rw [hK] at hbV
  clear hV HA hK hVs
  refine (fresh88 s _).mono ?_
  rintro e w1 ⟨L, R, rfl, hb, hL, hR, hne, hx, hr⟩
  have hq := fresh_LQ HV.out hb hL hR hne hx hr
  have hii := HI.out V w1 L R hq
  clear hq hx hr hb HI
  go_wp2_with (fail)
  refine hii.mono ?_
  rintro e w2 ⟨rfl, hq⟩
  clear hii
  have hKL : K < L := by have := HS.out; omega
  have c2 := hq.lx.c2
  simp only [LS.rest] at c2
  have cl := len_LQ _ _ _ _ _ _ _ _ _ hq
  have cn := take_LQ _ _ _ _ _ _ 0 0 _ t hq (by omega) (by omega) rfl
  clear hq
  go_wp2_with (fail)
  refine cl.mono ?_
  rintro e w3 ⟨rfl, rfl⟩
  go_wp2_with (fail)
  refine cn.mono ?_
  rintro e w3 ⟨rfl, hq⟩
  clear cl cn c2
  unfold Tk.val
  skip
  have hblk2 : ∃ T : Nat, w3.heap[K]? = some (.cells #[.int .i64 0, .int .i64 0, .string ⟨#[]⟩, .string ⟨#[]⟩] T (0, 0)) := by
    obtain ⟨T, hT⟩ := hblk
    have hlt := HS.out
    exact ⟨T, (hq.bel.block K (show K < V.heap.size by omega)).trans hT⟩
  have hK3 : K < w3.heap.size := block_lt hblk2.choose_spec
  go_wp2_with (fail)
  obtain ⟨N, hN⟩ : ∃ N, w3.heap.size = N := ⟨_, rfl⟩
  generalize hX : w3.alloc _ = X
  have hbX : Below w3.heap.size w3 X := by rw [← hX]; exact (Below.refl _ _).alloc (Nat.le_refl _) _
  have hqX := hq.below hbX
  obtain ⟨T, hT⟩ := hblk2
  have hXK : X.heap[K]? = some (.cells #[.int .i64 0, .int .i64 0, .string ⟨#[]⟩, .string ⟨#[]⟩] T (0, 0)) := by rw [← hX]; exact alloc_old _ hT
  have k0 := cell_of (i := 0) (v := .int .i64 0) hXK rfl
  have k1 := cell_of (i := 1) (v := .int .i64 0) hXK rfl
  have k2 := cell_of (i := 2) (v := .string ⟨#[]⟩) hXK rfl
  have k3 := cell_of (i := 3) (v := .string ⟨#[]⟩) hXK rfl
  have g0 := free_of (i := 0) hXK
  have g1 := free_of (i := 1) hXK
  have g2 := free_of (i := 2) hXK
  have g3 := free_of (i := 3) hXK
  have n0 : X.cell? ⟨N, 0, none⟩ = some (.int .i64 (t.a : Int)) := by rw [← hX, ← hN]; exact cell_of (alloc_new w3 _) rfl
  have n1 : X.cell? ⟨N, 1, none⟩ = some (.int .i64 (t.b : Int)) := by rw [← hX, ← hN]; exact cell_of (alloc_new w3 _) rfl
  have n2 : X.cell? ⟨N, 2, none⟩ = some (.string t.kind) := by rw [← hX, ← hN]; exact cell_of (alloc_new w3 _) rfl
  have n3 : X.cell? ⟨N, 3, none⟩ = some (.string t.txt) := by rw [← hX, ← hN]; exact cell_of (alloc_new w3 _) rfl
  have hend := set_of (i := 3) (set_of (i := 2) (set_of (i := 1) (set_of (i := 0) hXK (.int .i64 (t.a : Int))) (.int .i64 (t.b : Int))) (.string t.kind)) (.string t.txt)
  have z0 := Lib.hid (cell_of (i := 0) (v := .int .i64 (t.a : Int)) hend rfl)
  have z1 := Lib.hid (cell_of (i := 1) (v := .int .i64 (t.b : Int)) hend rfl)
  have z2 := Lib.hid (cell_of (i := 2) (v := .string t.kind) hend rfl)
  have z3 := Lib.hid (cell_of (i := 3) (v := .string t.txt) hend rfl)
  rw [hN]
  have hNK : N ≠ K := by omega
  have d4 := hqX.lx.c4
  have d6 := hqX.lx.c6
  simp only [LS.rest] at d4 d6
  have hfin : Below K w X := by
    have := HS.out
    exact hbV.trans (hqX.bel.mono (show K ≤ V.heap.size by omega))
  have HZ := Lib.hid hfin
  clear hX hbX hq hqX hblk hT hXK hend hN hfin hbV hK3
  go_region
  all_goals go_wp2
  all_goals
    refine bodyPost_ret (v := .tuple #[.int .i64 1, .agg #[.int .i64 (t.a : Int), .int .i64 (t.b : Int), .string t.kind, .string t.txt], .int .i64 (E : Int), .int .i64 (E : Int)]) (by simp [results, Tryz.results14, go_sem, z0.out, z1.out, z2.out, z3.out]) rfl ⟨rfl, ?_⟩
    rw [HK.out]
    exact ((((HZ.out.setCell (p := ⟨K, 0, none⟩) (Nat.le_refl _) _).setCell (p := ⟨K, 1, none⟩) (Nat.le_refl _) _).setCell (p := ⟨K, 2, none⟩) (Nat.le_refl _) _).setCell (p := ⟨K, 3, none⟩) (Nat.le_refl _) _).drew

set_option maxHeartbeats 4000000 in
/-- dot emits none. -/
theorem zzDot_none (s : ByteArray) (w : World) (E : Nat) (hE : E ≤ 1073741824) (hT : Tabs w)
    (hD : ∀ (W0 W : World) (L R : Nat), LQ W0.heap.size (LS.rest s (.pointer (some ⟨R, 0, none⟩)) rootV 0 false false) W0 W L R 0 0 (List.replicate 10 Tk.none) → Calls Tryz.prog 23 #[.pointer (some ⟨L, 0, none⟩)] W fun e w' => e = .returned numberV ∧ LQ W0.heap.size { LS.rest s (.pointer (some ⟨R, 0, none⟩)) rootV 0 false false with eb := E, er := E } W0 w' L R 0 0 (List.replicate 10 Tk.none)) :
    Calls Tryz.prog 14 #[.string s] w fun e w' => e = .returned (.tuple #[.int .i64 0, Tk.none.val, .int .i64 0, .int .i64 (E : Int)]) ∧ Below w.heap.size w w' := by
  have HA : Hid (Anch w.heap.size w) := Anch.start hT
  have HI := Lib.hid hD
  clear hT hD
  go_enter Tryz.func14, Tryz.ntmps14
  go_wp2_with (fail)
  generalize hV : w.alloc _ = V
  have hbV : Below w.heap.size w V := by rw [← hV]; exact (Below.refl _ _).alloc (Nat.le_refl _) _
  obtain ⟨K, hK⟩ : ∃ K, w.heap.size = K := ⟨_, rfl⟩
  have hblk : ∃ T : Nat, V.heap[K]? = some (.cells #[.int .i64 0, .int .i64 0, .string ⟨#[]⟩, .string ⟨#[]⟩] T (0, 0)) := by rw [← hV, ← hK]; exact ⟨_, alloc_new w _⟩
  have hVs : V.heap.size = K + 1 := by rw [← hV, ← hK]; simp
  have HV : Hid (Anch V.heap.size V) := Anch.start (HA.out.below hbV).tabs
  have HS := Lib.hid hVs
  have HK := Lib.hid hK
  rw [hK]
  rw [hK] at hbV
  clear hV HA hK hVs
  refine (fresh88 s _).mono ?_
  rintro e w1 ⟨L, R, rfl, hb, hL, hR, hne, hx, hr⟩
  have hq := fresh_LQ HV.out hb hL hR hne hx hr
  have hii := HI.out V w1 L R hq
  clear hq hx hr hb HI
  go_wp2_with (fail)
  refine hii.mono ?_
  rintro e w2 ⟨rfl, hq⟩
  clear hii
  have hKL : K < L := by have := HS.out; omega
  have c2 := hq.lx.c2
  simp only [LS.rest] at c2
  have cl := len_LQ _ _ _ _ _ _ _ _ _ hq
  have cn := none_LQ _ _ _ _ _ _ _ _ hq
  clear hq
  go_wp2_with (fail)
  refine cl.mono ?_
  rintro e w3 ⟨rfl, rfl⟩
  go_wp2_with (fail)
  refine cn.mono ?_
  rintro e w3 ⟨rfl, hq⟩
  clear cl cn c2
  unfold Tk.val
  unfold Tk.none
  have hblk2 : ∃ T : Nat, w3.heap[K]? = some (.cells #[.int .i64 0, .int .i64 0, .string ⟨#[]⟩, .string ⟨#[]⟩] T (0, 0)) := by
    obtain ⟨T, hT⟩ := hblk
    have hlt := HS.out
    exact ⟨T, (hq.bel.block K (show K < V.heap.size by omega)).trans hT⟩
  have hK3 : K < w3.heap.size := block_lt hblk2.choose_spec
  go_wp2_with (fail)
  obtain ⟨N, hN⟩ : ∃ N, w3.heap.size = N := ⟨_, rfl⟩
  generalize hX : w3.alloc _ = X
  have hbX : Below w3.heap.size w3 X := by rw [← hX]; exact (Below.refl _ _).alloc (Nat.le_refl _) _
  have hqX := hq.below hbX
  obtain ⟨T, hT⟩ := hblk2
  have hXK : X.heap[K]? = some (.cells #[.int .i64 0, .int .i64 0, .string ⟨#[]⟩, .string ⟨#[]⟩] T (0, 0)) := by rw [← hX]; exact alloc_old _ hT
  have k0 := cell_of (i := 0) (v := .int .i64 0) hXK rfl
  have k1 := cell_of (i := 1) (v := .int .i64 0) hXK rfl
  have k2 := cell_of (i := 2) (v := .string ⟨#[]⟩) hXK rfl
  have k3 := cell_of (i := 3) (v := .string ⟨#[]⟩) hXK rfl
  have g0 := free_of (i := 0) hXK
  have g1 := free_of (i := 1) hXK
  have g2 := free_of (i := 2) hXK
  have g3 := free_of (i := 3) hXK
  have n0 : X.cell? ⟨N, 0, none⟩ = some (.int .i64 (0)) := by rw [← hX, ← hN]; exact cell_of (alloc_new w3 _) rfl
  have n1 : X.cell? ⟨N, 1, none⟩ = some (.int .i64 (0)) := by rw [← hX, ← hN]; exact cell_of (alloc_new w3 _) rfl
  have n2 : X.cell? ⟨N, 2, none⟩ = some (.string ⟨#[]⟩) := by rw [← hX, ← hN]; exact cell_of (alloc_new w3 _) rfl
  have n3 : X.cell? ⟨N, 3, none⟩ = some (.string ⟨#[]⟩) := by rw [← hX, ← hN]; exact cell_of (alloc_new w3 _) rfl
  have hend := set_of (i := 3) (set_of (i := 2) (set_of (i := 1) (set_of (i := 0) hXK (.int .i64 (0))) (.int .i64 (0))) (.string ⟨#[]⟩)) (.string ⟨#[]⟩)
  have z0 := Lib.hid (cell_of (i := 0) (v := .int .i64 (0)) hend rfl)
  have z1 := Lib.hid (cell_of (i := 1) (v := .int .i64 (0)) hend rfl)
  have z2 := Lib.hid (cell_of (i := 2) (v := .string ⟨#[]⟩) hend rfl)
  have z3 := Lib.hid (cell_of (i := 3) (v := .string ⟨#[]⟩) hend rfl)
  rw [hN]
  have hNK : N ≠ K := by omega
  have d4 := hqX.lx.c4
  have d6 := hqX.lx.c6
  simp only [LS.rest] at d4 d6
  have hfin : Below K w X := by
    have := HS.out
    exact hbV.trans (hqX.bel.mono (show K ≤ V.heap.size by omega))
  have HZ := Lib.hid hfin
  clear hX hbX hq hqX hblk hT hXK hend hN hfin hbV hK3
  go_region
  all_goals go_wp2
  all_goals
    refine bodyPost_ret (v := .tuple #[.int .i64 0, .agg #[.int .i64 (0), .int .i64 (0), .string ⟨#[]⟩, .string ⟨#[]⟩], .int .i64 0, .int .i64 (E : Int)]) (by simp [results, Tryz.results14, go_sem, z0.out, z1.out, z2.out, z3.out]) rfl ⟨rfl, ?_⟩
    rw [HK.out]
    exact ((((HZ.out.setCell (p := ⟨K, 0, none⟩) (Nat.le_refl _) _).setCell (p := ⟨K, 1, none⟩) (Nat.le_refl _) _).setCell (p := ⟨K, 2, none⟩) (Nat.le_refl _) _).setCell (p := ⟨K, 3, none⟩) (Nat.le_refl _) _).drew

end Go.Proofs.YtdlkdojgbiahgaaGreatFmt.Lx
