/-
  The contract of the lexer's Next where the calls of its states end in an error: the error goes through Bind. Conditions: lexer, ring and slots lie in new blocks, the tables are laid, the text has at most 2^30 bytes.
-/
import Derived.Test.YtdlkdojgbiahgaaGreatFmtLxBind
import Derived.BigRegion
namespace Go.Proofs.YtdlkdojgbiahgaaGreatFmt.Lx
open Go.RowKit Go.Lib

/-- k calls of a state from here the lexer has an error. -/
def StgE (B : Nat) (w0 : Base) (L R : Nat) : Nat → World → Prop
  | 0, w => ∃ x b l E a c msg, LQ B x w0 w L R b 0 l ∧ x.st = .nilFunc ∧ x.err = .pointer (some ⟨E, 0, none⟩) ∧ w0.wd.heap.size ≤ E ∧ x.s.size ≤ 1073741824 ∧ EB w E a c msg 0 0 ⟨#[]⟩
  | k + 1, w => ∃ x b l g, LQ B x w0 w L R b 0 l ∧ x.err = .pointer none ∧ x.st = .func (.func g) #[] #[] ∧ Enters Tryz.prog g ∧
      ∀ W, LQ B x w0 W L R b 0 l → Calls Tryz.prog g #[.pointer (some ⟨L, 0, none⟩)] W fun e w' => ∃ y b n l v, e = .returned v ∧ FV v ∧ LQ B y w0 w' L R b n l ∧ StgE B w0 L R k (w'.setCell ⟨L, 0, none⟩ v)

set_option maxHeartbeats 4000000 in
/-- Next, where N calls of a state end in an error. -/
theorem next_bad (B : Nat) (x : LS) (w00 : Base) (w : World) (L R b n : Nat) (l : List Tk) (N : Nat) (h : LQ B x w00 w L R b n l) (hN : ∀ (w0 : Base) W, w0.wd.tape = w.tape → LQ B x w0 W L R b n l → StgE B w0 L R N W) :
    Calls Tryz.prog 22 #[.pointer (some ⟨L, 0, none⟩)] w fun e w' => (∃ E : Nat, e = .returned (.tuple #[Tk.none.val, .iface 57 (.pointer (some ⟨E, 0, none⟩))])) ∧ Below B w00.wd w' := by
  go_enter Tryz.func22, Tryz.ntmps22
  go_wp2_with (fail)
  generalize hV : w.alloc _ = V
  have hbV : Below w.heap.size w V := by rw [← hV]; exact (Below.refl _ _).alloc (Nat.le_refl _) _
  obtain ⟨K, hK⟩ : ∃ K, w.heap.size = K := ⟨_, rfl⟩
  have hblk : ∃ T : Nat, V.heap[K]? = some (.cells #[.int .i64 0, .int .i64 0, .string ⟨#[]⟩, .string ⟨#[]⟩] T (0, 0)) := by rw [← hV, ← hK]; exact ⟨_, alloc_new w _⟩
  have hVs : K < V.heap.size := by rw [← hV, ← hK]; simp
  have hst := hN (w00.plus V K) V hbV.tape (h.rebase hbV (Nat.le_of_eq hK) hVs)
  have HF := Lib.hid (show Below B w00.wd V ∧ B ≤ K ∧ B ≤ V.heap.size from ⟨h.bel.trans (hbV.mono h.anch.le), by have := h.anch.le; omega, Nat.le_trans h.anch.le hbV.size⟩)
  rw [hK]
  clear hV hN hbV hVs hK h
  go_loopg [] N (fun k wr => StgE B (w00.plus V K) L R k wr)
  case atStart => exact hst
  case round =>
    clear hst
    cases gk with
    | succ k =>
      obtain ⟨y, b1, l1, g, hq, herr, hst, eg, hcall⟩ := hrel
      have c0 := hq.lx.c0
      rw [hst] at c0
      have c3 := hq.lx.c3
      rw [herr] at c3
      have c2 := hq.lx.c2
      rw [hq.tok] at c2
      have f0 := hq.lx.f 0
      have cl := len_LQ _ _ _ _ _ _ _ _ _ hq
      unfold Enters at eg
      have HQ := Lib.hid hq
      have HC := Lib.hid hcall
      clear hq hcall herr hst HF hblk
      have hneq := fun W => neq_func (P := Tryz.prog) W 55 (.func g) #[] #[] _ Tryz.underlying55 rfl
      go_wp2_with (first | (go_at_call 24; refine cl.mono ?_; rintro e w1 ⟨rfl, rfl⟩) | (go_at_fn g; refine (HC.out _ (by first | exact HQ.out | exact HQ.out.below (Below.refl _ _).drew)).mono ?_; rintro e w2 ⟨y2, b2, n2, l2, v, rfl, (rfl | ⟨g2, rfl⟩), hq2, hs2⟩ <;> (have d0 := hq2.lx.c0; have e0 := hq2.lx.f 0)))
      all_goals
        go_roundg k
        case measure => omega
        case rel => exact hs2
    | zero =>
      obtain ⟨y, b1, l1, E, ea, ec, msg, hq, hst, herr, hE, hsz, heb⟩ := hrel
      have c0 := hq.lx.c0
      rw [hst] at c0
      have c1 := hq.lx.c1
      have c3 := hq.lx.c3
      rw [herr] at c3
      have hneq0 := fun W => neq_nilFunc (P := Tryz.prog) W 55 _ Tryz.underlying55 rfl
      have hKq := hq.kq K (Or.inr rfl)
      obtain ⟨T, hT⟩ : ∃ T : Nat, wr.heap[K]? = some (.cells #[.int .i64 0, .int .i64 0, .string ⟨#[]⟩, .string ⟨#[]⟩] T (0, 0)) := by
        obtain ⟨T, hT⟩ := hblk
        exact ⟨T, hKq.2.2.2.trans hT⟩
      have hKE : K ≠ E := by have := hKq.1; omega
      have HW := Lib.hid (show Below B w00.wd wr from HF.out.1.trans hq.bel)
      have HE := Lib.hid (show B ≤ E ∧ B ≤ wr.heap.size from ⟨Nat.le_trans HF.out.2.2 hE, Nat.le_trans HF.out.2.2 hq.bel.size⟩)
      have cB := fun W (hb : Below wr.heap.size wr W) => bind_any y.s E ea ec msg W (heb.below hb) hsz
      have HB := Lib.hid cB
      have hLq := hq.lx.lt
      clear hq herr hst hblk heb cB hE hKq
      have HT := Lib.hid hT
      clear hT
      go_wp2_with (fail)
      go_region_with (go_at_call 29; refine (HB.out _ (by first | exact (Below.refl _ _).drew | exact Below.refl _ _)).mono ?_; rintro e w2 ⟨rfl, hc2⟩; have hT2 := hc2.keep (show _ = some _ from HT.out) (by simpa using hKE); have k0 := cell_of (i := 0) (v := .int .i64 0) hT2 rfl; have k1 := cell_of (i := 1) (v := .int .i64 0) hT2 rfl; have k2 := cell_of (i := 2) (v := .string ⟨#[]⟩) hT2 rfl; have k3 := cell_of (i := 3) (v := .string ⟨#[]⟩) hT2 rfl; have g0 := free_of (i := 0) hT2; have g1 := free_of (i := 1) hT2; have g2 := free_of (i := 2) hT2; have g3 := free_of (i := 3) hT2; have hend := set_of (i := 3) (set_of (i := 2) (set_of (i := 1) (set_of (i := 0) hT2 (.int .i64 0)) (.int .i64 0)) (.string ⟨#[]⟩)) (.string ⟨#[]⟩); have z0 := Lib.hid (cell_of (i := 0) (v := .int .i64 0) hend rfl); have z1 := Lib.hid (cell_of (i := 1) (v := .int .i64 0) hend rfl); have z2 := Lib.hid (cell_of (i := 2) (v := .string ⟨#[]⟩) hend rfl); have z3 := Lib.hid (cell_of (i := 3) (v := .string ⟨#[]⟩) hend rfl); have HC2 := Lib.hid hc2; clear hend hT2 hc2)
      all_goals go_wp2
      all_goals
        refine bodyPost_ret (v := .tuple #[.agg #[.int .i64 0, .int .i64 0, .string ⟨#[]⟩, .string ⟨#[]⟩], .iface 57 (.pointer (some ⟨E, 0, none⟩))]) (by simp [results, Tryz.results22, go_sem, z0.out, z1.out, z2.out, z3.out]) rfl ⟨⟨E, rfl⟩, ?_⟩
        have hq2 : Below B w00.wd w2 := (HW.out.drew).trans (HC2.out.below (fun k hk => by simp at hk; have := HE.out.1; omega) HE.out.2)
        exact ((((hq2.setCell (p := ⟨K, 0, none⟩) HF.out.2.1 _).setCell (p := ⟨K, 1, none⟩) HF.out.2.1 _).setCell (p := ⟨K, 2, none⟩) HF.out.2.1 _).setCell (p := ⟨K, 3, none⟩) HF.out.2.1 _)

end Go.Proofs.YtdlkdojgbiahgaaGreatFmt.Lx
