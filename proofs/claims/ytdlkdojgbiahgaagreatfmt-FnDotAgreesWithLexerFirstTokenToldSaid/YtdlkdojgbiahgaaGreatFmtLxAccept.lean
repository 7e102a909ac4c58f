/-
  Contracts of the lexer: accept, where it accepts and where it refuses. Conditions: the lexer lies in its block, the tables are laid, the text has at most 2^30 bytes.
-/
import Derived.Test.YtdlkdojgbiahgaaGreatFmtLxNext
import Derived.Test.YtdlkdojgbiahgaaGreatFmtLxPeek
import Derived.Test.YtdlkdojgbiahgaaGreatFmtLxRune
namespace Go.Proofs.YtdlkdojgbiahgaaGreatFmt.Lx
open Go.RowKit Go.Lib

set_option maxHeartbeats 1000000 in
theorem accept_yes (B L : Nat) (x : LS) (v : ByteArray) (w : World) (h : LX 60 w L x) (a : Anch B w) (hs : x.s.size ≤ 1073741824) (hr : x.er ≤ 1073741824) (hy : acc x.s v x.eb = true) :
    Calls Tryz.prog 31 #[.pointer (some ⟨L, 0, none⟩), .string v] w fun e w' => e = .returned (.bool true) ∧ Ch [L] w w' ∧ LX 60 w' L { x with eb := x.eb + dw x.s x.eb, er := x.er + 1 } := by
  have cp := peek_any B L x w h a
  have cc := fun W => contains_pk x.s v x.eb W
  have hp := acc_lt hy
  rw [hy] at cc
  have cn := fun W (hb : Below w.heap.size w W) => next_yes B L x W (h.below hb) (a.below hb) hp hs hr
  generalize pk x.s x.eb = R at *
  generalize dr x.s x.eb = R2 at *
  clear hy hp hs hr h a
  go_enter Tryz.func31, Tryz.ntmps31
  go_wp2_with (first | (go_at_call 50; refine cp.mono ?_; rintro e w1 ⟨rfl, hb1⟩) | (go_at_call 49; refine (cc _).mono ?_; rintro e w2 ⟨rfl, hb2⟩) | (go_at_call 30; refine (cn _ (hb1.trans (hb2.mono hb1.size))).mono ?_; rintro e w3 ⟨rfl, hc, hx⟩))
  go_ret
  exact ⟨rfl, (Ch.of_below (hb1.trans (hb2.mono hb1.size))).trans hc, hx⟩

set_option maxHeartbeats 1000000 in
theorem accept_no (B L : Nat) (x : LS) (v : ByteArray) (w : World) (h : LX 60 w L x) (a : Anch B w) (hy : acc x.s v x.eb = false) :
    Calls Tryz.prog 31 #[.pointer (some ⟨L, 0, none⟩), .string v] w fun e w' => e = .returned (.bool false) ∧ Below w.heap.size w w' := by
  have cp := peek_any B L x w h a
  have cc := fun W => contains_pk x.s v x.eb W
  rw [hy] at cc
  generalize pk x.s x.eb = R at *
  clear hy h a
  go_enter Tryz.func31, Tryz.ntmps31
  go_wp2_with (first | (go_at_call 50; refine cp.mono ?_; rintro e w1 ⟨rfl, hb1⟩) | (go_at_call 49; refine (cc _).mono ?_; rintro e w2 ⟨rfl, hb2⟩))
  go_ret
  exact ⟨rfl, hb1.trans (hb2.mono hb1.size)⟩

end Go.Proofs.YtdlkdojgbiahgaaGreatFmt.Lx
