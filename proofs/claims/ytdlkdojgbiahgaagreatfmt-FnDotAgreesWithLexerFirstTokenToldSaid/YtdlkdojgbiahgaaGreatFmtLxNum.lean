/-
  Contracts of the lexer over ASCII sets: accept and acceptRun, at a lexer that counts as many runes as bytes. Conditions: the tables are laid, the text has at most 2^30 bytes.
-/
import Derived.Test.YtdlkdojgbiahgaaGreatFmtLxMake
import Derived.Test.YtdlkdojgbiahgaaGreatFmtLxAccept
import Derived.Deep.LoopGhost
namespace Go.Proofs.YtdlkdojgbiahgaaGreatFmt.Lx
open Go.RowKit Go.Lib

/-- The same lexer, its end at byte p and rune q. -/
def LS.at (x : LS) (p q : Nat) : LS := { x with eb := p, er := q }
/-- From world w0 on nothing old but block L has changed; the lexer's end stands at byte p and rune p. -/
def Sc (B L : Nat) (x : LS) (w0 w : World) (p : Nat) : Prop := Ch [L] w0 w ∧ Anch B w ∧ LX 60 w L (x.at p p)
theorem Sc.ch {B L : Nat} {x : LS} {w0 w : World} {p : Nat} (h : Sc B L x w0 w p) : Ch [L] w0 w := h.1
theorem Sc.anch {B L : Nat} {x : LS} {w0 w : World} {p : Nat} (h : Sc B L x w0 w p) : Anch B w := h.2.1
theorem Sc.lx {B L : Nat} {x : LS} {w0 w : World} {p : Nat} (h : Sc B L x w0 w p) : LX 60 w L (x.at p p) := h.2.2
theorem Sc.below {B L : Nat} {x : LS} {w0 w w' : World} {p : Nat} (h : Sc B L x w0 w p) (hb : Below w.heap.size w w') : Sc B L x w0 w' p :=
  ⟨h.1.trans (Ch.of_below hb), h.2.1.below hb, h.2.2.below hb⟩

theorem accS (B L : Nat) (x : LS) (v : ByteArray) (w0 w : World) (p : Nat) (h : Sc B L x w0 w p) (hB : B ≤ L) (hs : x.s.size ≤ 1073741824) (hp : p ≤ x.s.size) (hv : Asc v) (b : Bool) (hb : acc x.s v p = b) :
    Calls Tryz.prog 31 #[.pointer (some ⟨L, 0, none⟩), .string v] w fun e w' => e = .returned (.bool b) ∧ Sc B L x w0 w' (cond b (p + 1) p) ∧ Ch [L] w w' := by
  obtain ⟨h1, h2, h3⟩ := h
  cases b with
  | false =>
    refine (accept_no B L (x.at p p) v w h3 h2 hb).mono ?_
    rintro e w' ⟨rfl, hbe⟩
    exact ⟨rfl, ⟨h1.trans (Ch.of_below hbe), h2.below hbe, h3.below hbe⟩, Ch.of_below hbe⟩
  | true =>
    refine (accept_yes B L (x.at p p) v w h3 h2 hs (by show p ≤ _; omega) hb).mono ?_
    rintro e w' ⟨rfl, hc, hx⟩
    have e1 : dw (x.at p p).s (x.at p p).eb = 1 := acc_w hv hb
    rw [e1] at hx
    exact ⟨rfl, ⟨h1.trans hc, h2.ch1 hc hB, hx⟩, hc⟩

set_option maxHeartbeats 1000000 in
theorem runS (B L : Nat) (x : LS) (v : ByteArray) (w0 w : World) (p : Nat) (h : Sc B L x w0 w p) (hB : B ≤ L) (hs : x.s.size ≤ 1073741824) (hp : p ≤ x.s.size) (hv : Asc v) :
    Calls Tryz.prog 75 #[.pointer (some ⟨L, 0, none⟩), .string v] w fun e w' => e = .returned (.tuple #[]) ∧ Sc B L x w0 w' (run x.s v p) ∧ Ch [L] w w' := by
  obtain ⟨r, hr⟩ : ∃ r, run x.s v p = r := ⟨_, rfl⟩
  rw [hr]
  have HR : Hid (run x.s v p = r) := hr
  clear hr
  go_enter Tryz.func75, Tryz.ntmps75
  go_wp2_with (fail)
  go_loopg [] (x.s.size - p) (fun k wr => ∃ n, n ≤ x.s.size ∧ k = x.s.size - n ∧ Hid (run x.s v n = r) ∧ Sc B L x w0 wr n ∧ Ch [L] w wr)
  case atStart => exact ⟨p, hp, rfl, HR, h, Ch.refl _ _⟩
  case round =>
    obtain ⟨n, hn, hk, HN, hsc, hch⟩ := hrel
    have HK : Hid (gk = x.s.size - n) := hk
    clear hk HR h
    cases hy : acc x.s v n with
    | true =>
      have ca := accS B L x v w0 wr n hsc hB hs hn hv true hy
      have hlt := acc_lt hy
      have HM : Hid (run x.s v (n + 1) = r) := by
        have e := run_yes hy
        rw [acc_w hv hy] at e
        exact e.symm.trans HN.out
      clear hy hsc HN
      go_wp2_with (go_at_call 31; refine ca.mono ?_; rintro e w1 ⟨rfl, g1, hc1⟩)
      go_roundg (x.s.size - (n + 1))
      case measure => have := HK.out; omega
      case rel => exact ⟨n + 1, hlt, rfl, HM, g1, hch.trans hc1⟩
    | false =>
      have ca := accS B L x v w0 wr n hsc hB hs hn hv false hy
      have hrn : n = r := (run_no hy).symm.trans HN.out
      subst hrn
      clear hy hsc HN HK
      go_wp2_with (go_at_call 31; refine ca.mono ?_; rintro e w1 ⟨rfl, g1, hc1⟩)
      go_end0
      exact ⟨rfl, g1, hch.trans hc1⟩

end Go.Proofs.YtdlkdojgbiahgaaGreatFmt.Lx
