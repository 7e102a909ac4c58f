/-
  Contracts of the shims word, commit, endByte and endRune at a lexer that has read k runes.
-/
import Derived.Test.YtdlkdojgbiahgaaFmtLxAt
namespace Go.Proofs.YtdlkdojgbiahgaaFmt.Lx
open Go.RowKit Go.Lib

theorem zzword_St (B L : Nat) (s : ByteArray) (tok : Value) (sb sr k : Nat) (w0 w : World) (h : St B L s tok sb sr k w0 w) (h1 : sb ≤ (pos s k).1) (hs : s.size ≤ 1073741824) :
    Calls Tryf.prog 19 #[.pointer (some ⟨L, 0, none⟩)] w fun e w' => e = .returned (.string (s.extract sb (pos s k).1)) ∧ Below w.heap.size w w' := by
  obtain ⟨eof, hb, ha, hL, hx⟩ := h
  have c := word_any B L _ w hx ha h1 (pos_le s k).1 hs
  go_enter Tryf.func19, Tryf.ntmps19
  go_wp2_with (go_at_call 41; refine c.mono ?_; rintro e w1 ⟨rfl, h1⟩)
  go_ret
  exact ⟨rfl, h1⟩

theorem zzcommit_St (B L : Nat) (s : ByteArray) (tok : Value) (sb sr k : Nat) (w0 w : World) (h : St B L s tok sb sr k w0 w) :
    Calls Tryf.prog 20 #[.pointer (some ⟨L, 0, none⟩)] w fun e w' => e = .returned (.tuple #[]) ∧ St B L s tok (pos s k).1 (pos s k).2 k w0 w' := by
  obtain ⟨eof, hb, ha, hL, hx⟩ := h
  have c := commit_any L _ w hx
  go_enter Tryf.func20, Tryf.ntmps20
  go_wp2_with (go_at_call 42; refine c.mono ?_; rintro e w1 ⟨rfl, hc, h1⟩)
  go_end0
  exact ⟨rfl, eof, hb.trans (hc.below (fun k hk => by simp at hk; omega) ha.le), ha.ch1 hc hL, hL, h1⟩

theorem zzendByte_St (B L : Nat) (s : ByteArray) (tok : Value) (sb sr k : Nat) (w0 w : World) (h : St B L s tok sb sr k w0 w) :
    Calls Tryf.prog 22 #[.pointer (some ⟨L, 0, none⟩)] w fun e w' => e = .returned (.int .i64 ((pos s k).1 : Int)) ∧ w = w' := by
  obtain ⟨eof, hb, ha, hL, hx⟩ := h
  have c6 := hx.c6
  simp only at c6
  clear hx
  go_enter Tryf.func22, Tryf.ntmps22
  go_wp2
  go_ret
  exact ⟨rfl, rfl⟩
theorem zzendRune_St (B L : Nat) (s : ByteArray) (tok : Value) (sb sr k : Nat) (w0 w : World) (h : St B L s tok sb sr k w0 w) :
    Calls Tryf.prog 23 #[.pointer (some ⟨L, 0, none⟩)] w fun e w' => e = .returned (.int .i64 ((pos s k).2 : Int)) ∧ w = w' := by
  obtain ⟨eof, hb, ha, hL, hx⟩ := h
  have c7 := hx.c7
  simp only at c7
  clear hx
  go_enter Tryf.func23, Tryf.ntmps23
  go_wp2
  go_ret
  exact ⟨rfl, rfl⟩

end Go.Proofs.YtdlkdojgbiahgaaFmt.Lx
