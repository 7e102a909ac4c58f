/-
  Contracts of the ring of tokens: grow from nothing, Enqueue, Len, Dequeue. Condition: the ring lies in its block, its ten slots in theirs.
-/
import Derived.Test.YtdlkdojgbiahgaaGreatFmtLxNum
import Derived.BigRegion
import Derived.Lib.Hide
namespace Go.Proofs.YtdlkdojgbiahgaaGreatFmt.Lx
open Go.RowKit Go.Lib

/-- Ten empty slots. -/
def ten : Array Value := slotCells (List.replicate 10 Tk.none)
theorem made_ten : madeCells (Tk.none.val).cells 40 = ten := by kernel_rfl
theorem token_info : (Tryz.prog.info? 33).map (fun i => (i.zero, i.size, i.bytes)) = some (some Tk.none.val, 4, 48) := by kernel_rfl
theorem make_ten (W : World) : (Instr.makeSlice 25 (.int .i64 (IntKind.i64.wrap 10)) (.int .i64 (IntKind.i64.wrap 10))).run Tryz.prog W = .ok (.slice (some ⟨W.heap.size, 0, none⟩) 10 10) (W.alloc (.cells ten 33)) := by
  obtain ⟨i, hi, hzz⟩ := Option.map_eq_some_iff.1 token_info
  simp only [Prod.mk.injEq] at hzz
  obtain ⟨hz, hs, hb⟩ := hzz
  have h := run_make (P := Tryz.prog) W 25 33 i Tk.none.val (by kernel_rfl) hi hz .i64 .i64 10 10 (by omega) (by omega) (by rw [hb]; decide) (by omega)
  rw [hs, show Int.toNat 10 = 10 from rfl, show 10 * 4 = 40 from rfl, made_ten] at h
  rw [show IntKind.i64.wrap 10 = 10 from by decide]
  exact h

set_option maxHeartbeats 1000000 in
theorem ring_grow (R : Nat) (w : World) (h : RN 70 w R) :
    Calls Tryz.prog 95 #[.pointer (some ⟨R, 0, none⟩)] w fun e w' => e = .returned (.tuple #[]) ∧ Ch [R] w w' ∧ RX 70 33 w' R w.heap.size 0 0 (List.replicate 10 Tk.none) := by
  have c0 := h.cell0; have c1 := h.cell1; have c3 := h.cell3
  have f0 := h.free 0; have f1 := h.free 1
  have hlt := h.lt
  have h2 : RN 70 (w.alloc (.cells ten 33)) R := alloc_old _ h
  have d0 := h2.cell0; have d1 := h2.cell1; have d2 := h2.cell2
  have g0 := h2.free 0; have g1 := h2.free 1
  have hmk := make_ten
  have fin : RX 70 33 (((w.setCell ⟨R, 1, none⟩ (.int .i64 0)).setCell ⟨R, 0, none⟩ (.slice (some ⟨w.heap.size, 0, none⟩) 10 10)).alloc (.cells ten 33)).drew R w.heap.size 0 0 (List.replicate 10 Tk.none) := by
    refine ⟨alloc_old _ (set_of (set_of h _) _), ?_, rfl, by omega⟩
    have hz : ((w.setCell ⟨R, 1, none⟩ (.int .i64 0)).setCell ⟨R, 0, none⟩ (.slice (some ⟨w.heap.size, 0, none⟩) 10 10)).heap.size = w.heap.size := by simp [World.setCell]
    have := alloc_new ((w.setCell ⟨R, 1, none⟩ (.int .i64 0)).setCell ⟨R, 0, none⟩ (.slice (some ⟨w.heap.size, 0, none⟩) 10 10)) (.cells ten 33)
    rw [hz] at this
    exact this
  have hch : Ch [R] w (((w.setCell ⟨R, 1, none⟩ (.int .i64 0)).setCell ⟨R, 0, none⟩ (.slice (some ⟨w.heap.size, 0, none⟩) 10 10)).alloc (.cells ten 33)).drew :=
    ((((Ch.refl [R] w).setCell (p := ⟨R, 1, none⟩) (Or.inl (by simp)) _).setCell (p := ⟨R, 0, none⟩) (Or.inl (by simp)) _).alloc _).drew
  go_enter Tryz.func95, Tryz.ntmps95
  go_wp2_with (fail)
  go_region
  all_goals (go_wp2; go_end0; exact ⟨rfl, hch, fin⟩)

section
variable {T U : Nat} {w w' : World} {R D b n : Nat} {l : List Tk}
theorem RX.r0 (h : RX T U w R D b n l) : w.cell? ⟨R, 0, none⟩ = some (.slice (some ⟨D, 0, none⟩) 10 10) := cell_of h.ring rfl
theorem RX.r1 (h : RX T U w R D b n l) : w.cell? ⟨R, 1, none⟩ = some (.int .i64 (b : Int)) := cell_of h.ring rfl
theorem RX.r2 (h : RX T U w R D b n l) : w.cell? ⟨R, 2, none⟩ = some (.int .i64 (n : Int)) := cell_of h.ring rfl
theorem RX.rf (h : RX T U w R D b n l) (i : Nat) : w.frozen? ⟨R, i, none⟩ = false := free_of h.ring
theorem RX.df (h : RX T U w R D b n l) (i : Nat) : w.frozen? ⟨D, i, none⟩ = false := free_of h.data
theorem RX.rlt (h : RX T U w R D b n l) : R < w.heap.size := block_lt h.ring
theorem RX.dlt (h : RX T U w R D b n l) : D < w.heap.size := block_lt h.data
theorem RX.d0 (h : RX T U w R D b n l) (i : Nat) (hi : i < l.length) : w.cell? ⟨D, i * 4, none⟩ = some (.int .i64 ((l[i]'hi).a : Int)) := cell_of h.data (slot_get l i 0 hi (by omega))
theorem RX.d1 (h : RX T U w R D b n l) (i : Nat) (hi : i < l.length) : w.cell? ⟨D, i * 4 + 1, none⟩ = some (.int .i64 ((l[i]'hi).b : Int)) := cell_of h.data (slot_get l i 1 hi (by omega))
theorem RX.d2 (h : RX T U w R D b n l) (i : Nat) (hi : i < l.length) : w.cell? ⟨D, i * 4 + 2, none⟩ = some (.string (l[i]'hi).kind) := cell_of h.data (slot_get l i 2 hi (by omega))
theorem RX.d3 (h : RX T U w R D b n l) (i : Nat) (hi : i < l.length) : w.cell? ⟨D, i * 4 + 3, none⟩ = some (.string (l[i]'hi).txt) := cell_of h.data (slot_get l i 3 hi (by omega))
theorem RX.drew (h : RX T U w R D b n l) : RX T U w.drew R D b n l := ⟨h.ring, h.data, h.ten, h.ne⟩
theorem RX.drewN (h : RX T U w R D b n l) (k : Nat) : RX T U (w.drewN k) R D b n l := ⟨h.ring, h.data, h.ten, h.ne⟩
theorem RX.alloc (h : RX T U w R D b n l) (o : Obj) : RX T U (w.alloc o) R D b n l := ⟨alloc_old o h.ring, alloc_old o h.data, h.ten, h.ne⟩
theorem RX.below (h : RX T U w R D b n l) (hb : Below w.heap.size w w') : RX T U w' R D b n l :=
  ⟨(hb.block _ h.rlt).trans h.ring, (hb.block _ h.dlt).trans h.data, h.ten, h.ne⟩
theorem RX.ch (h : RX T U w R D b n l) {S : List Nat} (hc : Ch S w w') (h1 : R ∉ S) (h2 : D ∉ S) : RX T U w' R D b n l :=
  ⟨hc.keep h.ring h1, hc.keep h.data h2, h.ten, h.ne⟩
end

theorem RX.boxed {T U : Nat} {w : World} {R D b n : Nat} {l : List Tk} (h : RX T U w R D b n l) (o : Obj) (n1 n2 : Nat) : RX T U (((w.alloc o).drewN n1).drewN n2) R D b n l :=
by
  have hb : Below w.heap.size w (w.alloc o) := (Below.refl _ _).alloc (Nat.le_refl _) o
  have hb2 : Below w.heap.size w (((w.alloc o).drewN n1).drewN n2) := ⟨hb.os, hb.tape, hb.output, hb.size, hb.block⟩
  exact h.below hb2
/-- What Enqueue's stores leave. -/
theorem RX.put {T U : Nat} {w : World} {R D b n : Nat} {l : List Tk} (h : RX T U w R D b n l) (i : Nat) (hi : i < l.length) (t : Tk) (m : Nat) :
    RX T U (((((w.setCell ⟨D, i * 4, none⟩ (.int .i64 (t.a : Int))).setCell ⟨D, i * 4 + 1, none⟩ (.int .i64 (t.b : Int))).setCell ⟨D, i * 4 + 2, none⟩ (.string t.kind)).setCell ⟨D, i * 4 + 3, none⟩ (.string t.txt)).setCell ⟨R, 2, none⟩ (.int .i64 (m : Int))) R D b m (l.set i t) := by
  refine ⟨set_of ((set_other _ h.ne).trans ((set_other _ h.ne).trans ((set_other _ h.ne).trans ((set_other _ h.ne).trans h.ring)))) _, ?_, by rw [List.length_set]; exact h.ten, h.ne⟩
  rw [← slot_set l i hi t]
  exact (set_other _ (Ne.symm h.ne)).trans (set_of (set_of (set_of (set_of h.data _) _) _) _)

set_option maxHeartbeats 2000000 in
/-- Enqueue with room. -/
theorem ring_put (R D b n : Nat) (l : List Tk) (t : Tk) (w : World) (h : RX 70 33 w R D b n l) (hr : b + n < 10) :
    Calls Tryz.prog 77 #[.pointer (some ⟨R, 0, none⟩), t.val] w fun e w' => e = .returned (.tuple #[]) ∧ Ch [R, D] w w' ∧ RX 70 33 w' R D b (n + 1) (l.set (b + n) t) := by
  have hi : b + n < l.length := by rw [h.ten]; exact hr
  have r0 := h.r0; have r1 := h.r1; have r2 := h.r2
  have hlr := h.rlt; have hld := h.dlt
  have hn : ((n : Int) == 10) = false := by simp; omega
  have hrm : ((b : Int) + (n : Int)).tmod 10 = (b : Int) + (n : Int) := Int.tmod_eq_of_lt (by omega) (by omega)
  have HX := Lib.hid h
  clear h
  unfold Tk.val
  go_enter Tryz.func77, Tryz.ntmps77
  go_wp2_with (fail)
  go_quiet (fail)
  go_wp2_with (fail)
  go_quiet (fail)
  go_wp2_with (fail)
  generalize hW : World.drewN (World.drewN _ _) _ = W
  have hx : RX 70 33 W R D b n l := by rw [← hW]; exact HX.out.boxed _ _ _
  have hc : Ch [R, D] w W := by rw [← hW]; exact (((Ch.refl _ _).alloc _).drewN _).drewN _
  obtain ⟨K, hK⟩ : ∃ K, w.heap.size = K := ⟨_, rfl⟩
  have k0 : W.cell? ⟨K, 0, none⟩ = some (.int .i64 (t.a : Int)) := by rw [← hW, ← hK]; exact cell_of (alloc_new w _) rfl
  have k1 : W.cell? ⟨K, 1, none⟩ = some (.int .i64 (t.b : Int)) := by rw [← hW, ← hK]; exact cell_of (alloc_new w _) rfl
  have k2 : W.cell? ⟨K, 2, none⟩ = some (.string t.kind) := by rw [← hW, ← hK]; exact cell_of (alloc_new w _) rfl
  have k3 : W.cell? ⟨K, 3, none⟩ = some (.string t.txt) := by rw [← hW, ← hK]; exact cell_of (alloc_new w _) rfl
  rw [hK]
  clear hW hK hlr hld r0 r1 r2
  have r0 := hx.r0; have r2 := hx.r2
  have f2 := hx.rf 2
  have e0 := hx.d0 _ hi; have e1 := hx.d1 _ hi; have e2 := hx.d2 _ hi; have e3 := hx.d3 _ hi
  have q0 := hx.df ((b + n) * 4); have q1 := hx.df ((b + n) * 4 + 1); have q2 := hx.df ((b + n) * 4 + 2); have q3 := hx.df ((b + n) * 4 + 3)
  have hne := hx.ne
  have g1 : (b : Int) + (n : Int) < 10 := by omega
  have g0 : 0 ≤ (b : Int) + (n : Int) := by omega
  go_region
  all_goals
    go_wp2
    go_end0
    exact ⟨rfl, (((((hc.setCell (p := ⟨D, (b + n) * 4, none⟩) (Or.inl (by simp)) _).setCell (p := ⟨D, (b + n) * 4 + 1, none⟩) (Or.inl (by simp)) _).setCell (p := ⟨D, (b + n) * 4 + 2, none⟩) (Or.inl (by simp)) _).setCell (p := ⟨D, (b + n) * 4 + 3, none⟩) (Or.inl (by simp)) _).setCell (p := ⟨R, 2, none⟩) (Or.inl (by simp)) _).drew, (hx.put (b + n) hi t (n + 1)).drew⟩

/-- A ring that has just made its slots. -/
theorem RX.zero {T U : Nat} {w : World} {R D : Nat} {l : List Tk} (h : RX T U w R D 0 0 l) : 0 < l.length := by rw [h.ten]; omega

set_option maxHeartbeats 2000000 in
/-- Enqueue into a ring that has no slots yet. -/
theorem ring_first (R : Nat) (t : Tk) (w : World) (h : RN 70 w R) :
    Calls Tryz.prog 77 #[.pointer (some ⟨R, 0, none⟩), t.val] w fun e w' => e = .returned (.tuple #[]) ∧ Ch [R] w w' ∧ ∃ D, w.heap.size ≤ D ∧ RX 70 33 w' R D 0 1 ((List.replicate 10 Tk.none).set 0 t) := by
  have r0 := h.cell0; have r1 := h.cell1; have r2 := h.cell2
  have hlr := h.lt
  have HX := Lib.hid h
  clear h
  unfold Tk.val
  go_enter Tryz.func77, Tryz.ntmps77
  go_wp2_with (fail)
  go_quiet (fail)
  go_wp2_with (fail)
  refine (ring_grow R (World.drewN (w.alloc _) _) (alloc_old _ HX.out)).mono ?_
  rintro e W1 ⟨rfl, hch, hx1⟩
  have hc1 : Ch [R] w W1 := (((Ch.refl [R] w).alloc _).drewN _).trans hch
  have hbox := hch.keep (alloc_new w _) (by simp; omega)
  obtain ⟨D, hD2, hx1⟩ : ∃ D, w.heap.size ≤ D ∧ RX 70 33 W1 R D 0 0 (List.replicate 10 Tk.none) := ⟨_, by simp [World.drewN], hx1⟩
  clear hch r0 r1 r2 HX
  have r0 := hx1.r0; have r1 := hx1.r1; have r2 := hx1.r2
  have hlr := hx1.rlt; have hld := hx1.dlt
  go_wp2_with (fail)
  go_quiet (fail)
  go_wp2_with (fail)
  generalize hW : World.drewN W1 _ = W
  have hx : RX 70 33 W R D 0 0 (List.replicate 10 Tk.none) := by rw [← hW]; exact hx1.drewN _
  have hc : Ch [R] w W := by rw [← hW]; exact hc1.drewN _
  obtain ⟨K, hK⟩ : ∃ K, w.heap.size = K := ⟨_, rfl⟩
  have k0 : W.cell? ⟨K, 0, none⟩ = some (.int .i64 (t.a : Int)) := by rw [← hW, ← hK]; exact cell_of hbox rfl
  have k1 : W.cell? ⟨K, 1, none⟩ = some (.int .i64 (t.b : Int)) := by rw [← hW, ← hK]; exact cell_of hbox rfl
  have k2 : W.cell? ⟨K, 2, none⟩ = some (.string t.kind) := by rw [← hW, ← hK]; exact cell_of hbox rfl
  have k3 : W.cell? ⟨K, 3, none⟩ = some (.string t.txt) := by rw [← hW, ← hK]; exact cell_of hbox rfl
  rw [hK]
  clear hW hK hlr hld r0 r1 r2 hbox hx1 hc1
  have r0 := hx.r0; have r2 := hx.r2
  have f2 := hx.rf 2
  have hi := hx.zero
  have e0 := hx.d0 _ hi; have e1 := hx.d1 _ hi; have e2 := hx.d2 _ hi; have e3 := hx.d3 _ hi
  rw [Nat.zero_mul] at e0 e1 e2 e3
  have q0 := hx.df 0; have q1 := hx.df 1; have q2 := hx.df 2; have q3 := hx.df 3
  have hne := hx.ne
  go_region
  all_goals
    go_wp2
    go_end0
    refine ⟨rfl, (((((hc.setCell (p := ⟨D, 0, none⟩) (Or.inr hD2) _).setCell (p := ⟨D, 1, none⟩) (Or.inr hD2) _).setCell (p := ⟨D, 2, none⟩) (Or.inr hD2) _).setCell (p := ⟨D, 3, none⟩) (Or.inr hD2) _).setCell (p := ⟨R, 2, none⟩) (Or.inl (by simp)) _).drew, D, hD2, ?_⟩
    have := hx.put 0 hi t 1
    simp only [Nat.zero_mul, Nat.zero_add] at this
    exact this.drew

theorem ring_len (R D b n : Nat) (l : List Tk) (w : World) (h : RX 70 33 w R D b n l) :
    Calls Tryz.prog 24 #[.pointer (some ⟨R, 0, none⟩)] w fun e w' => e = .returned (.int .i64 (n : Int)) ∧ w = w' := by
  have r2 := h.r2
  clear h
  go_enter Tryz.func24, Tryz.ntmps24
  go_wp2
  go_ret
  exact ⟨rfl, rfl⟩
theorem ring_len0 (R : Nat) (w : World) (h : RN 70 w R) :
    Calls Tryz.prog 24 #[.pointer (some ⟨R, 0, none⟩)] w fun e w' => e = .returned (.int .i64 0) ∧ w = w' := by
  have r2 := h.cell2
  clear h
  go_enter Tryz.func24, Tryz.ntmps24
  go_wp2
  go_ret
  exact ⟨rfl, rfl⟩

/-- What Dequeue's stores leave. -/
theorem RX.took {T U : Nat} {w : World} {R D b n : Nat} {l : List Tk} (h : RX T U w R D b n l) (i : Nat) (hi : i < l.length) (m c : Nat) :
    RX T U ((((((w.setCell ⟨D, i * 4, none⟩ (.int .i64 0)).setCell ⟨D, i * 4 + 1, none⟩ (.int .i64 0)).setCell ⟨D, i * 4 + 2, none⟩ (.string ⟨#[]⟩)).setCell ⟨D, i * 4 + 3, none⟩ (.string ⟨#[]⟩)).setCell ⟨R, 2, none⟩ (.int .i64 (m : Int))).setCell ⟨R, 1, none⟩ (.int .i64 (c : Int))) R D c m (l.set i Tk.none) := by
  refine ⟨set_of (set_of ((set_other _ h.ne).trans ((set_other _ h.ne).trans ((set_other _ h.ne).trans ((set_other _ h.ne).trans h.ring)))) _) _, ?_, by rw [List.length_set]; exact h.ten, h.ne⟩
  rw [← slot_set l i hi Tk.none]
  exact (set_other _ (Ne.symm h.ne)).trans ((set_other _ (Ne.symm h.ne)).trans (set_of (set_of (set_of (set_of h.data _) _) _) _))

set_option maxHeartbeats 4000000 in
/-- Dequeue where there is a token. -/
theorem ring_take (R D b n : Nat) (l : List Tk) (w : World) (h : RX 70 33 w R D b (n + 1) l) (hb : b < l.length) (hr : b + 1 < 10) (hn9 : n < 10) :
    Calls Tryz.prog 25 #[.pointer (some ⟨R, 0, none⟩)] w fun e w' => e = .returned (.tuple #[(l[b]'hb).val, .bool true]) ∧ Ch [R, D] w w' ∧ RX 70 33 w' R D (b + 1) n (l.set b Tk.none) := by
  have r0 := h.r0; have r1 := h.r1; have r2 := h.r2
  have f1 := h.rf 1; have f2 := h.rf 2
  have hlr := h.rlt; have hld := h.dlt
  have hne := h.ne
  have e0 := h.d0 _ hb; have e1 := h.d1 _ hb; have e2 := h.d2 _ hb; have e3 := h.d3 _ hb
  have q0 := h.df (b * 4); have q1 := h.df (b * 4 + 1); have q2 := h.df (b * 4 + 2); have q3 := h.df (b * 4 + 3)
  have hn : (((n + 1 : Nat) : Int) == 0) = false := by simp; omega
  have hrm : ((b : Int) + 1).tmod 10 = (b : Int) + 1 := Int.tmod_eq_of_lt (by omega) (by omega)
  generalize l[b]'hb = t at *
  unfold Tk.val
  have hb10 : (b : Int) < 10 := by omega
  have hn10 : (n : Int) < 10 := by omega
  have HX := Lib.hid h
  clear h
  go_enter Tryz.func25, Tryz.ntmps25
  go_wp2_with (fail)
  go_region
  all_goals go_wp2_with (fail)
  go_region
  all_goals go_wp2
  all_goals
    refine bodyPost_ret (v := .tuple #[.agg #[.int .i64 (t.a : Int), .int .i64 (t.b : Int), .string t.kind, .string t.txt], .bool true]) (by simp [results, Tryz.results25, go_sem]) rfl ⟨rfl, ?_, ?_⟩
  all_goals first
    | exact (((((((((Ch.refl [R, D] w).setCell (p := ⟨D, b * 4, none⟩) (Or.inl (by simp)) _).setCell (p := ⟨D, b * 4 + 1, none⟩) (Or.inl (by simp)) _).setCell (p := ⟨D, b * 4 + 2, none⟩) (Or.inl (by simp)) _).setCell (p := ⟨D, b * 4 + 3, none⟩) (Or.inl (by simp)) _).setCell (p := ⟨R, 2, none⟩) (Or.inl (by simp)) _).setCell (p := ⟨R, 1, none⟩) (Or.inl (by simp)) _).alloc _).drew).drew
    | exact (((HX.out.took b hb n (b + 1)).alloc _).drew).drew

/-- Dequeue where there is none. -/
theorem ring_none (R D b : Nat) (l : List Tk) (w : World) (h : RX 70 33 w R D b 0 l) :
    Calls Tryz.prog 25 #[.pointer (some ⟨R, 0, none⟩)] w fun e w' => e = .returned (.tuple #[Tk.none.val, .bool false]) ∧ Below w.heap.size w w' := by
  have r2 := h.r2
  have hlr := h.rlt
  clear h
  go_enter Tryz.func25, Tryz.ntmps25
  go_wp2
  exact bodyPost_ret (v := .tuple #[Tk.none.val, .bool false]) (by simp [results, Tryz.results25, go_sem, Tk.val, Tk.none]; rfl) rfl ⟨rfl, (Below.refl _ _).alloc (Nat.le_refl _) _⟩

end Go.Proofs.YtdlkdojgbiahgaaGreatFmt.Lx
