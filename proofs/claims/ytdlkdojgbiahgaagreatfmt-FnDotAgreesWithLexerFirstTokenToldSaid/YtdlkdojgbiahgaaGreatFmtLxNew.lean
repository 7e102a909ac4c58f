/-
  Contracts of ring.New, (*Ring).Reset, lexer.New and (*Lexer).Reset at a new lexer.
-/
import Derived.Test.YtdlkdojgbiahgaaGreatFmtLxBase
namespace Go.Proofs.YtdlkdojgbiahgaaGreatFmt.Lx
open Go.RowKit Go.Lib

theorem RN.cell0 {T : Nat} {w : World} {R : Nat} (h : RN T w R) : w.cell? ⟨R, 0, none⟩ = some (.slice none 0 0) := cell_of h rfl
theorem RN.cell1 {T : Nat} {w : World} {R : Nat} (h : RN T w R) : w.cell? ⟨R, 1, none⟩ = some (.int .i64 0) := cell_of h rfl
theorem RN.cell2 {T : Nat} {w : World} {R : Nat} (h : RN T w R) : w.cell? ⟨R, 2, none⟩ = some (.int .i64 0) := cell_of h rfl
theorem RN.cell3 {T : Nat} {w : World} {R : Nat} (h : RN T w R) : w.cell? ⟨R, 3, none⟩ = some (.int .i64 10) := cell_of h rfl
theorem RN.free {T : Nat} {w : World} {R : Nat} (h : RN T w R) (i : Nat) : w.frozen? ⟨R, i, none⟩ = false := free_of h
theorem RN.lt {T : Nat} {w : World} {R : Nat} (h : RN T w R) : R < w.heap.size := block_lt h

set_option maxHeartbeats 1000000 in
theorem ring_reset_new (R : Nat) (w : World) (h : RN 70 w R) :
    Calls Tryz.prog 40 #[.pointer (some ⟨R, 0, none⟩)] w fun e w' => e = .returned (.tuple #[]) ∧ Ch [R] w w' ∧ RN 70 w' R := by
  have c0 := h.cell0; have c1 := h.cell1; have c2 := h.cell2
  have f1 := h.free 1; have f2 := h.free 2
  have hlt := h.lt
  go_enter Tryz.func40, Tryz.ntmps40
  go_wp2
  go_loop [9] (fun i => i = .int .i64 0) (fun _ => 0)
  case atStart => rfl
  case round =>
    obtain rfl := hrel
    go_wp2
    go_end0
    exact ⟨rfl, ((((Ch.refl [R] w).setCell (p := ⟨R, 1, none⟩) (Or.inl (by simp)) _).setCell (p := ⟨R, 2, none⟩) (Or.inl (by simp)) _).alloc _), alloc_old _ (set_of (set_of h _) _)⟩

/-- The first state of a lexer: root. -/
def rootV : Value := .func (.func 35) #[] #[]
/-- A lexer as New lays it. -/
def LS.blank (R : Nat) : LS := ⟨.nilFunc, ByteArray.empty, .pointer (some ⟨R, 0, none⟩), .pointer none, 0, 0, 0, 0, false, false⟩

set_option maxHeartbeats 1000000 in
theorem lexer_reset_new (L R : Nat) (x : LS) (s : ByteArray) (w : World) (h : LX 60 w L x) (hR : RN 70 w R) (hne : L ≠ R) (ht : x.tok = .pointer (some ⟨R, 0, none⟩)) :
    Calls Tryz.prog 28 #[.pointer (some ⟨L, 0, none⟩), .agg #[.string s]] w fun e w' => e = .returned (.tuple #[]) ∧ Ch [L, R] w w' ∧ LX 60 w' L { x with st := rootV, s := s } ∧ RN 70 w' R := by
  have c0 := h.c0; have c1 := h.c1; have c2 := h.c2
  rw [ht] at c2
  have f0 := h.f 0; have f1 := h.f 1
  have hlt := h.lt; have hRlt := hR.lt
  obtain ⟨st, s0, tok, err, sb, sr, eb, er, eof, dis⟩ := x
  simp only at ht c0 c1 ⊢
  subst ht
  go_enter Tryz.func28, Tryz.ntmps28
  go_wp2_with (fail)
  have hR2 : RN 70 ((w.setCell ⟨L, 1, none⟩ (.string s)).alloc (.cells #[.string s] 48)) R := alloc_old _ ((set_other _ (Ne.symm hne)).trans hR)
  have hx2 := (h.s1 s).alloc (.cells #[.string s] 48)
  have hk : Ch [L, R] w ((w.setCell ⟨L, 1, none⟩ (.string s)).alloc (.cells #[.string s] 48)) := ((Ch.refl [L, R] w).setCell (p := ⟨L, 1, none⟩) (Or.inl (by simp)) _).alloc _
  refine (ring_reset_new R _ hR2).mono ?_
  rintro e w1 ⟨rfl, hc, hr⟩
  have hx3 := hx2.ch hc (by simpa using hne)
  have d0 := hx3.c0; have g0 := hx3.f 0
  simp only at d0
  have hk2 := hk.trans (hc.mono (fun k hk => by simp at hk; simp [hk]))
  clear hc hx2 hR2 hk
  go_wp2
  go_end0
  exact ⟨rfl, hk2.setCell (p := ⟨L, 0, none⟩) (Or.inl (by simp)) _, hx3.s0 rootV, (set_other _ (Ne.symm hne)).trans hr⟩

/-- What zzOn hands back: a lexer over s, at its start, and its ring. -/
def Fresh (s : ByteArray) (w : World) (e : Ending) (w' : World) : Prop :=
  ∃ L R : Nat, e = .returned (.pointer (some ⟨L, 0, none⟩)) ∧ Below w.heap.size w w' ∧ w.heap.size ≤ L ∧ w.heap.size ≤ R ∧ L ≠ R ∧ LX 60 w' L ⟨rootV, s, .pointer (some ⟨R, 0, none⟩), .pointer none, 0, 0, 0, 0, false, false⟩ ∧ RN 70 w' R

theorem ring_New (w : World) : Calls Tryz.prog 39 #[.int .i64 10] w fun e w' => e = .returned (.pointer (some ⟨w.heap.size, 0, none⟩)) ∧ w.alloc (.cells (ringCells (.slice none 0 0) 0 0) 70) = w' := by
  go_enter Tryz.func39, Tryz.ntmps39
  go_wp2
  go_ret
  exact ⟨rfl, rfl⟩

theorem lexer_New (w : World) : Calls Tryz.prog 27 #[] w fun e w' => e = .returned (.pointer (some ⟨w.heap.size + 1, 0, none⟩)) ∧ (w.alloc (.cells (ringCells (.slice none 0 0) 0 0) 70)).alloc (.cells (LS.blank w.heap.size).cells 60) = w' := by
  go_enter Tryz.func27, Tryz.ntmps27
  go_wp2_with (go_at_call 39; refine (ring_New _).mono ?_; rintro e w1 ⟨rfl, rfl⟩)
  go_ret
  exact ⟨rfl, rfl⟩

end Go.Proofs.YtdlkdojgbiahgaaGreatFmt.Lx
