/-
  How the ring of tokens lies in memory: its head and its ten slots. No program in sight.
-/
import Derived.Test.YtdlkdojgbiahgaaGreatFmtLxWorld
namespace Go.Proofs.YtdlkdojgbiahgaaGreatFmt.Lx
open Go Go.RowKit

/-- A token: its place, its kind, its text. -/
structure Tk where
  a : Nat
  b : Nat
  kind : ByteArray
  txt : ByteArray
def Tk.vals (t : Tk) : List Value := [.int .i64 (t.a : Int), .int .i64 (t.b : Int), .string t.kind, .string t.txt]
def Tk.none : Tk := ⟨0, 0, ByteArray.empty, ByteArray.empty⟩
def Tk.val (t : Tk) : Value := .agg #[.int .i64 (t.a : Int), .int .i64 (t.b : Int), .string t.kind, .string t.txt]
def ringCells (d : Value) (back len : Nat) : Array Value := #[d, .int .i64 (back : Int), .int .i64 (len : Int), .int .i64 10]
/-- The ring as New lays it. -/
def RN (T : Nat) (w : World) (R : Nat) : Prop := w.heap[R]? = some (.cells (ringCells (.slice Option.none 0 0) 0 0) T (0, 0))
def slotCells (l : List Tk) : Array Value := (l.flatMap Tk.vals).toArray
/-- The ring over ten slots in block D. -/
structure RX (T U : Nat) (w : World) (R D : Nat) (back len : Nat) (l : List Tk) : Prop where
  ring : w.heap[R]? = some (.cells (ringCells (.slice (some ⟨D, 0, Option.none⟩) 10 10) back len) T (0, 0))
  data : w.heap[D]? = some (.cells (slotCells l) U (0, 0))
  ten : l.length = 10
  ne : R ≠ D

theorem flat_get (l : List Tk) (i j : Nat) (hi : i < l.length) (hj : j < 4) : (l.flatMap Tk.vals)[i * 4 + j]? = (l[i]'hi).vals[j]? := by
  induction l generalizing i with
  | nil => simp at hi
  | cons t l ih =>
    cases i with
    | zero =>
      simp only [List.flatMap_cons, Nat.zero_mul, Nat.zero_add, List.getElem_cons_zero]
      rw [List.getElem?_append_left (by simp [Tk.vals]; omega)]
    | succ i =>
      simp only [List.flatMap_cons, List.getElem_cons_succ]
      rw [List.getElem?_append_right (by simp [Tk.vals]; omega)]
      have : (i + 1) * 4 + j - t.vals.length = i * 4 + j := by simp [Tk.vals]; omega
      rw [this]
      exact ih i (by simpa using hi)
theorem flat_len (l : List Tk) : (l.flatMap Tk.vals).length = 4 * l.length := by
  induction l with
  | nil => rfl
  | cons t l ih => simp only [List.flatMap_cons, List.length_append, List.length_cons, ih]; simp [Tk.vals]; omega
theorem slot_get (l : List Tk) (i j : Nat) (hi : i < l.length) (hj : j < 4) : (slotCells l)[i * 4 + j]? = (l[i]'hi).vals[j]? := by
  unfold slotCells
  rw [List.getElem?_toArray, flat_get l i j hi hj]
/-- Four stores make a slot anew. -/
theorem slot_set (l : List Tk) (i : Nat) (hi : i < l.length) (t : Tk) :
    ((((slotCells l).setIfInBounds (i * 4) (.int .i64 (t.a : Int))).setIfInBounds (i * 4 + 1) (.int .i64 (t.b : Int))).setIfInBounds (i * 4 + 2) (.string t.kind)).setIfInBounds (i * 4 + 3) (.string t.txt) = slotCells (l.set i t) := by
  apply Array.ext'
  unfold slotCells
  simp only [Array.toList_setIfInBounds]
  induction l generalizing i with
  | nil => simp at hi
  | cons u l ih =>
    cases i with
    | zero => simp [Tk.vals]
    | succ i =>
      have h := ih i (by simpa using hi)
      have e0 : (i + 1) * 4 = i * 4 + 1 + 1 + 1 + 1 := by omega
      have e1 : (i + 1) * 4 + 1 = (i * 4 + 1) + 1 + 1 + 1 + 1 := by omega
      have e2 : (i + 1) * 4 + 2 = (i * 4 + 2) + 1 + 1 + 1 + 1 := by omega
      have e3 : (i + 1) * 4 + 3 = (i * 4 + 3) + 1 + 1 + 1 + 1 := by omega
      simp only [List.flatMap_cons, Tk.vals, List.set_cons_succ, List.cons_append, List.nil_append]
      rw [e1, e2, e3, e0]
      exact congrArg (fun z => Value.int .i64 (u.a : Int) :: Value.int .i64 (u.b : Int) :: Value.string u.kind :: Value.string u.txt :: z) h
end Go.Proofs.YtdlkdojgbiahgaaGreatFmt.Lx
