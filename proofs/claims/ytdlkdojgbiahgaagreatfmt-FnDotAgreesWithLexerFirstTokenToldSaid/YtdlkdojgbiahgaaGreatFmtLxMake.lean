/-
  Contracts of file.NewSource and of the shim that makes a lexer over a text.
-/
import Derived.Test.YtdlkdojgbiahgaaGreatFmtLxNew
import Derived.Test.YtdlkdojgbiahgaaGreatFmtLxNext
import Derived.Test.YtdlkdojgbiahgaaGreatFmtLxPeek
namespace Go.Proofs.YtdlkdojgbiahgaaGreatFmt.Lx
open Go.RowKit Go.Lib

theorem new_lx (w : World) : LX 60 ((w.alloc (.cells (ringCells (.slice none 0 0) 0 0) 70)).alloc (.cells (LS.blank w.heap.size).cells 60)) (w.heap.size + 1) (LS.blank w.heap.size) := by
  have h := alloc_new (w.alloc (.cells (ringCells (.slice none 0 0) 0 0) 70)) (.cells (LS.blank w.heap.size).cells 60)
  rw [show (w.alloc (.cells (ringCells (.slice none 0 0) 0 0) 70)).heap.size = w.heap.size + 1 by simp] at h
  exact h
theorem new_rn (w : World) (o : Obj) : RN 70 ((w.alloc (.cells (ringCells (.slice none 0 0) 0 0) 70)).alloc o) w.heap.size := alloc_old _ (alloc_new w _)
theorem new_below (w : World) (o o2 : Obj) : Below w.heap.size w ((w.alloc o).alloc o2) := ((Below.refl _ _).alloc (Nat.le_refl _) _).alloc (by simp) _

theorem newSource (s : ByteArray) (w : World) : Calls Tryz.prog 20 #[.string s] w fun e w' => e = .returned (.agg #[.string s]) ∧ w.alloc (.cells #[.string s] 48) = w' := by
  go_enter Tryz.func20, Tryz.ntmps20
  go_wp2
  exact bodyPost_ret (v := .agg #[.string s]) (by simp [results, Tryz.results20, go_sem]) rfl ⟨rfl, rfl⟩

set_option maxHeartbeats 1000000 in
/-- The same beginning, in the other shim. -/
theorem fresh88 (s : ByteArray) (w : World) : Calls Tryz.prog 21 #[.string s] w (Fresh s w) := by
  have hx := new_lx w
  have hr := new_rn w (.cells (LS.blank w.heap.size).cells 60)
  have hb := new_below w (.cells (ringCells (.slice none 0 0) 0 0) 70) (.cells (LS.blank w.heap.size).cells 60)
  have cN := lexer_New w
  obtain ⟨W, hW⟩ : ∃ W, (w.alloc (.cells (ringCells (.slice none 0 0) 0 0) 70)).alloc (.cells (LS.blank w.heap.size).cells 60) = W := ⟨_, rfl⟩
  rw [hW] at hx hr hb cN
  clear hW
  have hb2 := hb.alloc hb.size (.cells #[.string s] 48)
  have cR := lexer_reset_new (w.heap.size + 1) w.heap.size (LS.blank w.heap.size) s _ (hx.alloc (.cells #[.string s] 48)) (alloc_old _ hr) (by omega) rfl
  go_enter Tryz.func21, Tryz.ntmps21
  go_wp2_with (first | (go_at_call 27; refine cN.mono ?_; rintro e w1 ⟨rfl, rfl⟩) | (go_at_call 20; refine (newSource s _).mono ?_; rintro e w1 ⟨rfl, rfl⟩) | (go_at_call 28; refine cR.mono ?_; rintro e w2 ⟨rfl, hc, hx2, hr2⟩))
  go_ret
  exact ⟨w.heap.size + 1, w.heap.size, rfl, hb2.trans (hc.below (fun k hk => by simp at hk; omega) hb2.size), by omega, by omega, by omega, hx2, hr2⟩

end Go.Proofs.YtdlkdojgbiahgaaGreatFmt.Lx
