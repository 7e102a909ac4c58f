/-
  The contract of the shim ZZFirstToken, over what Next hands back at a fresh lexer. Condition: the tables are laid.
-/
import Derived.Test.YtdlkdojgbiahgaaGreatFmtLxTok
import Derived.Test.YtdlkdojgbiahgaaGreatFmtLxZZIdent
namespace Go.Proofs.YtdlkdojgbiahgaaGreatFmt.Lx
open Go.RowKit Go.Lib

set_option maxHeartbeats 4000000 in
theorem zzFirst_any (s : ByteArray) (w : World) (t : Tk) (ev : Value) (ok : Bool) (hev : (ev = .nilIface ∧ ok = true) ∨ (∃ u x, ev = .iface u x ∧ ok = false)) (hT : Tabs w)
    (hN : ∀ (W0 W : World) (L R : Nat), LQ W0.heap.size (LS.rest s (.pointer (some ⟨R, 0, none⟩)) rootV 0 false false) W0 W L R 0 0 (List.replicate 10 Tk.none) → NextCall L W fun e w' => e = .returned (.tuple #[t.val, ev]) ∧ Below W0.heap.size W0 w') :
    Calls Tryz.prog 13 #[.string s] w fun e w' => e = .returned (.tuple #[t.val, .bool ok]) ∧ Below w.heap.size w w' := by
  have HA : Hid (Anch w.heap.size w) := Anch.start hT
  have HN := Lib.hid hN
  clear hT hN
  go_enter Tryz.func13, Tryz.ntmps13
  go_wp2_with (fail)
  generalize hV : w.alloc _ = V
  have hbV : Below w.heap.size w V := by rw [← hV]; exact (Below.refl _ _).alloc (Nat.le_refl _) _
  obtain ⟨K, hK⟩ : ∃ K, w.heap.size = K := ⟨_, rfl⟩
  have hblk : ∃ T : Nat, V.heap[K]? = some (.cells #[.int .i64 0, .int .i64 0, .string ⟨#[]⟩, .string ⟨#[]⟩] T (0, 0)) := by rw [← hV, ← hK]; exact ⟨_, alloc_new w _⟩
  have hVs : V.heap.size = K + 1 := by rw [← hV, ← hK]; simp
  have HV : Hid (Anch V.heap.size V) := Anch.start (HA.out.below hbV).tabs
  have HS := Lib.hid hVs
  have HK := Lib.hid hK
  rw [hK]
  rw [hK] at hbV
  clear hV HA hK hVs
  refine (fresh88 s _).mono ?_
  rintro e w1 ⟨L, R, rfl, hb, hL, hR, hne, hx, hr⟩
  have hq := fresh_LQ HV.out hb hL hR hne hx hr
  have hn := HN.out V w1 L R hq
  clear hq hx hr hb HN
  unfold Tk.val at hn
  go_wp2_with (fail)
  refine hn.mono ?_
  rintro e w2 ⟨rfl, hb2⟩
  clear hn
  have hfin : Below K w w2 := by
    have := HS.out
    exact hbV.trans (hb2.mono (by omega))
  obtain ⟨T, hT⟩ : ∃ T : Nat, w2.heap[K]? = some (.cells #[.int .i64 0, .int .i64 0, .string ⟨#[]⟩, .string ⟨#[]⟩] T (0, 0)) := by
    obtain ⟨T, hT⟩ := hblk
    have hlt := HS.out
    exact ⟨T, (hb2.block K (by omega)).trans hT⟩
  have hK3 : K < w2.heap.size := block_lt hT
  rcases hev with ⟨rfl, rfl⟩ | ⟨u, x, rfl, rfl⟩
  all_goals
    go_wp2_with (fail)
    obtain ⟨N, hN⟩ : ∃ N, w2.heap.size = N := ⟨_, rfl⟩
    generalize hX : w2.alloc _ = X
    have hXK : X.heap[K]? = some (.cells #[.int .i64 0, .int .i64 0, .string ⟨#[]⟩, .string ⟨#[]⟩] T (0, 0)) := by rw [← hX]; exact alloc_old _ hT
    have hbX : Below K w X := by rw [← hX]; exact hfin.alloc (by omega) _
    have k0 := cell_of (i := 0) (v := .int .i64 0) hXK rfl
    have k1 := cell_of (i := 1) (v := .int .i64 0) hXK rfl
    have k2 := cell_of (i := 2) (v := .string ⟨#[]⟩) hXK rfl
    have k3 := cell_of (i := 3) (v := .string ⟨#[]⟩) hXK rfl
    have g0 := free_of (i := 0) hXK
    have g1 := free_of (i := 1) hXK
    have g2 := free_of (i := 2) hXK
    have g3 := free_of (i := 3) hXK
    have n0 : X.cell? ⟨N, 0, none⟩ = some (.int .i64 (t.a : Int)) := by rw [← hX, ← hN]; exact cell_of (alloc_new w2 _) rfl
    have n1 : X.cell? ⟨N, 1, none⟩ = some (.int .i64 (t.b : Int)) := by rw [← hX, ← hN]; exact cell_of (alloc_new w2 _) rfl
    have n2 : X.cell? ⟨N, 2, none⟩ = some (.string t.kind) := by rw [← hX, ← hN]; exact cell_of (alloc_new w2 _) rfl
    have n3 : X.cell? ⟨N, 3, none⟩ = some (.string t.txt) := by rw [← hX, ← hN]; exact cell_of (alloc_new w2 _) rfl
    have hend := set_of (i := 3) (set_of (i := 2) (set_of (i := 1) (set_of (i := 0) hXK (.int .i64 (t.a : Int))) (.int .i64 (t.b : Int))) (.string t.kind)) (.string t.txt)
    have z0 := Lib.hid (cell_of (i := 0) (v := .int .i64 (t.a : Int)) hend rfl)
    have z1 := Lib.hid (cell_of (i := 1) (v := .int .i64 (t.b : Int)) hend rfl)
    have z2 := Lib.hid (cell_of (i := 2) (v := .string t.kind) hend rfl)
    have z3 := Lib.hid (cell_of (i := 3) (v := .string t.txt) hend rfl)
    rw [hN]
    have hNK : N ≠ K := by omega
    have HZ := Lib.hid hbX
    clear hX hbX hT hXK hend hN hblk hfin hbV hK3 hb2
    go_region
    all_goals go_wp2
    all_goals
      refine bodyPost_ret (v := .tuple #[.agg #[.int .i64 (t.a : Int), .int .i64 (t.b : Int), .string t.kind, .string t.txt], .bool _]) (by simp [results, Tryz.results13, go_sem, z0.out, z1.out, z2.out, z3.out]) rfl ⟨rfl, ?_⟩
      rw [HK.out]
      exact ((((HZ.out.setCell (p := ⟨K, 0, none⟩) (Nat.le_refl _) _).setCell (p := ⟨K, 1, none⟩) (Nat.le_refl _) _).setCell (p := ⟨K, 2, none⟩) (Nat.le_refl _) _).setCell (p := ⟨K, 3, none⟩) (Nat.le_refl _) _).drew

end Go.Proofs.YtdlkdojgbiahgaaGreatFmt.Lx
