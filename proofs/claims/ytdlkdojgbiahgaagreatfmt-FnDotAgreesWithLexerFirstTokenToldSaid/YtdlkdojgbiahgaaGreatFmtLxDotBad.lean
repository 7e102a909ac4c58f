/-
  A source that opens with a full stop and a refused numeral: Next hands back an error, the shim ZZFirstToken tells so. Conditions: the tables are laid, the text has at most 2^30 bytes; fmt's text is told by a function F (whatever it gives).
-/
import Derived.Test.YtdlkdojgbiahgaaGreatFmtLxNextBad
import Derived.Test.YtdlkdojgbiahgaaGreatFmtLxZZFirst
namespace Go.Proofs.YtdlkdojgbiahgaaGreatFmt.Lx
open Go.RowKit Go.Lib
open Go.Extern.Stop Go.Stop Go.Extern

theorem first_bad (F : Interp) (B : Nat) (s : ByteArray) (tok : Value) (w00 : Base) (w : World) (L R : Nat) (l : List Tk) (hF : F.answers w.tape) (h : LQ B (LS.rest s tok rootV 0 false false) w00 w L R 0 0 l) (h0 : 0 < s.size) (h46 : bt s 0 = 46) (hs : s.size ≤ 1073741824) (ha : acc s DD 1 = true) (hok : okN s 1 = false) :
    NextCall L w fun e w' => (∃ E : Nat, e = .returned (.tuple #[Tk.none.val, .iface 57 (.pointer (some ⟨E, 0, none⟩))])) ∧ Below B w00.wd w' := by
  have hlt := acc_lt ha
  refine next_bad B _ w00 w L R 0 0 l 3 h ?_
  intro w0 W htape hq
  refine ⟨_, 0, l, 35, hq, rfl, rfl, enters_root, fun W1 hq1 => ?_⟩
  refine (root_dot B (LS.rest s tok rootV 0 false false) w0 W1 L R 0 0 l 0 hq1 rfl h0 hs h46).mono ?_
  rintro e w1 ⟨rfl, hq2⟩
  refine ⟨_, 0, 0, l, dotV, rfl, Or.inr ⟨_, rfl⟩, hq2, ?_⟩
  refine ⟨_, 0, l, 23, hq2.setSt dotV, rfl, rfl, enters_dot, fun W2 hq3 => ?_⟩
  refine (dot_yes B (LS.rest s tok dotV 0 false false) w0 W2 L R 0 0 l 0 hq3 rfl h0 hs h46 ha).mono ?_
  rintro e w2 ⟨rfl, hq4⟩
  refine ⟨_, 0, 0, l, numberV, rfl, Or.inr ⟨_, rfl⟩, hq4, ?_⟩
  refine ⟨_, 0, l, 33, hq4.setSt numberV, rfl, rfl, enters_number, fun W3 hq5 => ?_⟩
  have ht : W3.tape = w.tape := hq5.bel.tape.trans htape
  refine (number_bad F B (LS.rest s tok numberV 0 false false) w0 W3 L R 0 0 l 1 (by rw [ht]; exact hF) hq5 (by show 0 ≤ 1; omega) (by show 1 ≤ s.size; omega) hs rfl rfl hok).mono ?_
  rintro e w4 ⟨rfl, E, msg, q, r, hE, hr, hq6, hblk⟩
  refine ⟨_, 0, 0, l, .nilFunc, rfl, Or.inl rfl, hq6, ?_⟩
  have hLE : E ≠ L := by have := hq5.lx.lt; omega
  exact ⟨_, 0, l, E, _, _, msg, hq6.setSt .nilFunc, rfl, rfl, Nat.le_trans hq5.bel.size hE, hs, (set_other _ hLE).trans hblk⟩

set_option maxHeartbeats 4000000 in
theorem zzFirst_bad (s : ByteArray) (w : World) (hT : Tabs w)
    (hN : ∀ (W0 W : World) (L R : Nat), W.tape = w.tape → LQ W0.heap.size (LS.rest s (.pointer (some ⟨R, 0, none⟩)) rootV 0 false false) W0 W L R 0 0 (List.replicate 10 Tk.none) → NextCall L W fun e w' => (∃ E : Nat, e = .returned (.tuple #[Tk.none.val, .iface 57 (.pointer (some ⟨E, 0, none⟩))])) ∧ Below W0.heap.size W0 w') :
    Calls Tryz.prog 13 #[.string s] w fun e w' => e = .returned (.tuple #[Tk.none.val, .bool false]) ∧ Below w.heap.size w w' := by
  have HA : Hid (Anch w.heap.size w) := Anch.start hT
  have HN := Lib.hid hN
  clear hT hN
  go_enter Tryz.func13, Tryz.ntmps13
  go_wp2_with (fail)
  generalize hV : w.alloc _ = V
  have hbV : Below w.heap.size w V := by rw [← hV]; exact (Below.refl _ _).alloc (Nat.le_refl _) _
  obtain ⟨K, hK⟩ : ∃ K, w.heap.size = K := ⟨_, rfl⟩
  have hblk : ∃ T : Nat, V.heap[K]? = some (.cells #[.int .i64 0, .int .i64 0, .string ⟨#[]⟩, .string ⟨#[]⟩] T (0, 0)) := by rw [← hV, ← hK]; exact ⟨_, alloc_new w _⟩
  have hVs : V.heap.size = K + 1 := by rw [← hV, ← hK]; simp
  have HV : Hid (Anch V.heap.size V) := Anch.start (HA.out.below hbV).tabs
  have HS := Lib.hid hVs
  have HK := Lib.hid hK
  rw [hK]
  rw [hK] at hbV
  clear hV HA hK hVs
  refine (fresh88 s _).mono ?_
  rintro e w1 ⟨L, R, rfl, hb, hL, hR, hne, hx, hr⟩
  have hq := fresh_LQ HV.out hb hL hR hne hx hr
  have hn := HN.out V w1 L R (hb.tape.trans hbV.tape) hq
  clear hq hx hr hb HN
  unfold Tk.val Tk.none at hn
  go_wp2_with (fail)
  refine hn.mono ?_
  rintro e w2 ⟨⟨E, rfl⟩, hb2⟩
  clear hn
  have hfin : Below K w w2 := by
    have := HS.out
    exact hbV.trans (hb2.mono (by omega))
  obtain ⟨T, hT⟩ : ∃ T : Nat, w2.heap[K]? = some (.cells #[.int .i64 0, .int .i64 0, .string ⟨#[]⟩, .string ⟨#[]⟩] T (0, 0)) := by
    obtain ⟨T, hT⟩ := hblk
    have hlt := HS.out
    exact ⟨T, (hb2.block K (by omega)).trans hT⟩
  have hK3 : K < w2.heap.size := block_lt hT
  · go_wp2_with (fail)
    obtain ⟨N, hN⟩ : ∃ N, w2.heap.size = N := ⟨_, rfl⟩
    generalize hX : w2.alloc _ = X
    have hXK : X.heap[K]? = some (.cells #[.int .i64 0, .int .i64 0, .string ⟨#[]⟩, .string ⟨#[]⟩] T (0, 0)) := by rw [← hX]; exact alloc_old _ hT
    have hbX : Below K w X := by rw [← hX]; exact hfin.alloc (by omega) _
    have k0 := cell_of (i := 0) (v := .int .i64 0) hXK rfl
    have k1 := cell_of (i := 1) (v := .int .i64 0) hXK rfl
    have k2 := cell_of (i := 2) (v := .string ⟨#[]⟩) hXK rfl
    have k3 := cell_of (i := 3) (v := .string ⟨#[]⟩) hXK rfl
    have g0 := free_of (i := 0) hXK
    have g1 := free_of (i := 1) hXK
    have g2 := free_of (i := 2) hXK
    have g3 := free_of (i := 3) hXK
    have n0 : X.cell? ⟨N, 0, none⟩ = some (.int .i64 0) := by rw [← hX, ← hN]; exact cell_of (alloc_new w2 _) rfl
    have n1 : X.cell? ⟨N, 1, none⟩ = some (.int .i64 0) := by rw [← hX, ← hN]; exact cell_of (alloc_new w2 _) rfl
    have n2 : X.cell? ⟨N, 2, none⟩ = some (.string ⟨#[]⟩) := by rw [← hX, ← hN]; exact cell_of (alloc_new w2 _) rfl
    have n3 : X.cell? ⟨N, 3, none⟩ = some (.string ⟨#[]⟩) := by rw [← hX, ← hN]; exact cell_of (alloc_new w2 _) rfl
    have hend := set_of (i := 3) (set_of (i := 2) (set_of (i := 1) (set_of (i := 0) hXK (.int .i64 0)) (.int .i64 0)) (.string ⟨#[]⟩)) (.string ⟨#[]⟩)
    have z0 := Lib.hid (cell_of (i := 0) (v := .int .i64 0) hend rfl)
    have z1 := Lib.hid (cell_of (i := 1) (v := .int .i64 0) hend rfl)
    have z2 := Lib.hid (cell_of (i := 2) (v := .string ⟨#[]⟩) hend rfl)
    have z3 := Lib.hid (cell_of (i := 3) (v := .string ⟨#[]⟩) hend rfl)
    rw [hN]
    have hNK : N ≠ K := by omega
    have HZ := Lib.hid hbX
    clear hX hbX hT hXK hend hN hblk hfin hbV hK3 hb2
    go_region
    all_goals go_wp2
    all_goals
      refine bodyPost_ret (v := .tuple #[.agg #[.int .i64 0, .int .i64 0, .string ⟨#[]⟩, .string ⟨#[]⟩], .bool _]) (by simp [results, Tryz.results13, go_sem, z0.out, z1.out, z2.out, z3.out]) rfl ⟨rfl, ?_⟩
      rw [HK.out]
      exact ((((HZ.out.setCell (p := ⟨K, 0, none⟩) (Nat.le_refl _) _).setCell (p := ⟨K, 1, none⟩) (Nat.le_refl _) _).setCell (p := ⟨K, 2, none⟩) (Nat.le_refl _) _).setCell (p := ⟨K, 3, none⟩) (Nat.le_refl _) _).drew

end Go.Proofs.YtdlkdojgbiahgaaGreatFmt.Lx
