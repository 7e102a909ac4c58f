/-
  How a lexer lies in memory, and what it means that nothing but some blocks has changed. No program in sight.
-/
import Derived.WalkKit
import Derived.WalkMore
import Derived.Below
import Derived.Laws.RangeString
import Derived.Laws.RangeAny
import Derived.Deep.Quiet
namespace Go.Proofs.YtdlkdojgbiahgaaGreatFmt.Lx
open Go Go.RowKit

/-- Outside the blocks of S the world w' is as w was; there may be new blocks. -/
structure Ch (S : List Nat) (w w' : World) : Prop where
  os : w'.os = w.os
  tape : w'.tape = w.tape
  output : w'.output = w.output
  size : w.heap.size ≤ w'.heap.size
  block : ∀ k, k < w.heap.size → k ∉ S → w'.heap[k]? = w.heap[k]?

theorem Ch.refl (S : List Nat) (w : World) : Ch S w w := ⟨rfl, rfl, rfl, Nat.le_refl _, fun _ _ _ => rfl⟩
theorem Ch.trans {S : List Nat} {a b c : World} (h : Ch S a b) (k : Ch S b c) : Ch S a c :=
  ⟨k.os.trans h.os, k.tape.trans h.tape, k.output.trans h.output, Nat.le_trans h.size k.size, fun i hi hS => (k.block i (Nat.lt_of_lt_of_le hi h.size) hS).trans (h.block i hi hS)⟩
theorem Ch.mono {S T : List Nat} {a b : World} (h : Ch S a b) (hST : ∀ k, k ∈ S → k ∈ T) : Ch T a b :=
  ⟨h.os, h.tape, h.output, h.size, fun i hi hS => h.block i hi (fun x => hS (hST i x))⟩
theorem Ch.of_below {S : List Nat} {w w' : World} (h : Below w.heap.size w w') : Ch S w w' := ⟨h.os, h.tape, h.output, h.size, fun k hk _ => h.block k hk⟩
theorem Ch.below {S : List Nat} {B : Nat} {w w' : World} (h : Ch S w w') (hS : ∀ k, k ∈ S → B ≤ k) (hB : B ≤ w.heap.size) : Below B w w' :=
  ⟨h.os, h.tape, h.output, h.size, fun k hk => h.block k (by omega) (fun x => by have := hS k x; omega)⟩
theorem Ch.belowNil {w w' : World} (h : Ch [] w w') : Below w.heap.size w w' := h.below (fun k hk => by cases hk) (Nat.le_refl _)
theorem Ch.drew {S : List Nat} {a w : World} (h : Ch S a w) : Ch S a w.drew := ⟨h.os, h.tape, h.output, h.size, h.block⟩
theorem Ch.drewN {S : List Nat} {a w : World} (h : Ch S a w) (n : Nat) : Ch S a (w.drewN n) := ⟨h.os, h.tape, h.output, h.size, h.block⟩
theorem Ch.alloc {S : List Nat} {a w : World} (h : Ch S a w) (o : Obj) : Ch S a (w.alloc o) :=
  h.trans ⟨rfl, rfl, rfl, by simp, fun k hk _ => Below.heap_alloc _ _ _ hk⟩
theorem Ch.iter {S : List Nat} {a w : World} (h : Ch S a w) (s : ByteArray) (p : Nat) : Ch S a (w.iter s p) := h.alloc _
/-- A store into a block of S, or into one that is new. -/
theorem Ch.setCell {S : List Nat} {a w : World} (h : Ch S a w) {p : Addr} (hp : p.block ∈ S ∨ a.heap.size ≤ p.block) (u : Value) : Ch S a (w.setCell p u) := by
  refine ⟨h.os, h.tape, h.output, by simpa [World.setCell] using h.size, fun k hk hS => ?_⟩
  have hne : k ≠ p.block := by
    rcases hp with hp | hp
    · intro e; subst e; exact hS hp
    · omega
  rw [Below.heap_setCell _ _ _ _ hne]
  exact h.block k hk hS
theorem Ch.keep {S : List Nat} {w w' : World} (h : Ch S w w') {k : Nat} {o : Obj} (hk : w.heap[k]? = some o) (hS : k ∉ S) : w'.heap[k]? = some o := by
  have hlt : k < w.heap.size := by
    rcases Nat.lt_or_ge k w.heap.size with x | x
    · exact x
    · rw [Array.getElem?_eq_none x] at hk; cases hk
  rw [h.block k hlt hS]; exact hk
theorem block_lt {w : World} {k : Nat} {o : Obj} (hk : w.heap[k]? = some o) : k < w.heap.size := by
  rcases Nat.lt_or_ge k w.heap.size with x | x
  · exact x
  · rw [Array.getElem?_eq_none x] at hk; cases hk

/-- A block of cells, whole. -/
theorem cell_of {w : World} {L T i : Nat} {cs : Array Value} {v : Value} (h : w.heap[L]? = some (.cells cs T (0, 0))) (hi : cs[i]? = some v) : w.cell? ⟨L, i, none⟩ = some v := by
  simp [World.cell?, h, hi]
theorem free_of {w : World} {L T i : Nat} {cs : Array Value} (h : w.heap[L]? = some (.cells cs T (0, 0))) : w.frozen? ⟨L, i, none⟩ = false := by
  simp [World.frozen?, h]
theorem set_of {w : World} {L T i : Nat} {cs : Array Value} (h : w.heap[L]? = some (.cells cs T (0, 0))) (v : Value) : (w.setCell ⟨L, i, none⟩ v).heap[L]? = some (.cells (cs.setIfInBounds i v) T (0, 0)) := by
  simp [World.setCell, Array.getElem?_modify, h]
theorem set_other {w : World} {L K i : Nat} (v : Value) (h : K ≠ L) : (w.setCell ⟨L, i, none⟩ v).heap[K]? = w.heap[K]? := Below.heap_setCell _ _ _ _ (by simpa using h)
theorem alloc_old {w : World} {L : Nat} {o : Obj} (n : Obj) (h : w.heap[L]? = some o) : (w.alloc n).heap[L]? = some o := by
  rw [Below.heap_alloc _ _ _ (block_lt h)]; exact h
theorem alloc_new (w : World) (n : Obj) : (w.alloc n).heap[w.heap.size]? = some n := by
  show (w.heap.push n)[w.heap.size]? = _
  simp

/-- A lexer: what its cells hold. -/
structure LS where
  st : Value
  s : ByteArray
  tok : Value
  err : Value
  sb : Nat
  sr : Nat
  eb : Nat
  er : Nat
  eof : Bool
  dis : Bool
def LS.cells (x : LS) : Array Value := #[x.st, .string x.s, x.tok, x.err, .int .i64 (x.sb : Int), .int .i64 (x.sr : Int), .int .i64 (x.eb : Int), .int .i64 (x.er : Int), .bool x.eof, .bool x.dis]
/-- Block L is a lexer's. -/
def LX (T : Nat) (w : World) (L : Nat) (x : LS) : Prop := w.heap[L]? = some (.cells x.cells T (0, 0))
section
variable {T : Nat} {w w' : World} {L : Nat} {x : LS}
theorem LX.c0 (h : LX T w L x) : w.cell? ⟨L, 0, none⟩ = some x.st := cell_of h rfl
theorem LX.c1 (h : LX T w L x) : w.cell? ⟨L, 1, none⟩ = some (.string x.s) := cell_of h rfl
theorem LX.c2 (h : LX T w L x) : w.cell? ⟨L, 2, none⟩ = some x.tok := cell_of h rfl
theorem LX.c3 (h : LX T w L x) : w.cell? ⟨L, 3, none⟩ = some x.err := cell_of h rfl
theorem LX.c4 (h : LX T w L x) : w.cell? ⟨L, 4, none⟩ = some (.int .i64 (x.sb : Int)) := cell_of h rfl
theorem LX.c5 (h : LX T w L x) : w.cell? ⟨L, 5, none⟩ = some (.int .i64 (x.sr : Int)) := cell_of h rfl
theorem LX.c6 (h : LX T w L x) : w.cell? ⟨L, 6, none⟩ = some (.int .i64 (x.eb : Int)) := cell_of h rfl
theorem LX.c7 (h : LX T w L x) : w.cell? ⟨L, 7, none⟩ = some (.int .i64 (x.er : Int)) := cell_of h rfl
theorem LX.c8 (h : LX T w L x) : w.cell? ⟨L, 8, none⟩ = some (.bool x.eof) := cell_of h rfl
theorem LX.c9 (h : LX T w L x) : w.cell? ⟨L, 9, none⟩ = some (.bool x.dis) := cell_of h rfl
theorem LX.f (h : LX T w L x) (i : Nat) : w.frozen? ⟨L, i, none⟩ = false := free_of h
theorem LX.lt (h : LX T w L x) : L < w.heap.size := block_lt h
theorem LX.s0 (h : LX T w L x) (v : Value) : LX T (w.setCell ⟨L, 0, none⟩ v) L { x with st := v } := set_of h v
theorem LX.s4 (h : LX T w L x) (n : Nat) : LX T (w.setCell ⟨L, 4, none⟩ (.int .i64 (n : Int))) L { x with sb := n } := set_of h _
theorem LX.s5 (h : LX T w L x) (n : Nat) : LX T (w.setCell ⟨L, 5, none⟩ (.int .i64 (n : Int))) L { x with sr := n } := set_of h _
theorem LX.s6 (h : LX T w L x) (n : Nat) : LX T (w.setCell ⟨L, 6, none⟩ (.int .i64 (n : Int))) L { x with eb := n } := set_of h _
theorem LX.s7 (h : LX T w L x) (n : Nat) : LX T (w.setCell ⟨L, 7, none⟩ (.int .i64 (n : Int))) L { x with er := n } := set_of h _
theorem LX.s8 (h : LX T w L x) (b : Bool) : LX T (w.setCell ⟨L, 8, none⟩ (.bool b)) L { x with eof := b } := set_of h _
theorem LX.s9 (h : LX T w L x) (b : Bool) : LX T (w.setCell ⟨L, 9, none⟩ (.bool b)) L { x with dis := b } := set_of h _
theorem LX.s1 (h : LX T w L x) (s : ByteArray) : LX T (w.setCell ⟨L, 1, none⟩ (.string s)) L { x with s := s } := set_of h _
theorem LX.below (h : LX T w L x) (hb : Below w.heap.size w w') : LX T w' L x := by
  unfold LX; rw [hb.block L h.lt]; exact h
theorem LX.ch {S : List Nat} (h : LX T w L x) (hc : Ch S w w') (hS : L ∉ S) : LX T w' L x := hc.keep h hS
theorem LX.drew (h : LX T w L x) : LX T w.drew L x := h
theorem LX.drewN (h : LX T w L x) (n : Nat) : LX T (w.drewN n) L x := h
theorem LX.alloc (h : LX T w L x) (o : Obj) : LX T (w.alloc o) L x := alloc_old o h
end
end Go.Proofs.YtdlkdojgbiahgaaGreatFmt.Lx
