/-
  The contract of the lexer's error at the text "bad number syntax: %q": fmt's text is told by a function F (whatever it gives). Conditions: the lexer lies in its block, it has no error yet, the tables are laid.
-/
import Derived.Test.YtdlkdojgbiahgaaGreatFmtLxDotTok
import Derived.Stop.CallBack
import Derived.Stop.IfaceNil
import Derived.Stop.Texts
import GoSem.ClaimData
namespace Go.Proofs.YtdlkdojgbiahgaaGreatFmt.Lx
open Go.RowKit Go.Lib
open Go.Extern.Stop Go.Stop Go.Extern

@[go_sem] theorem call_sprintf (args : Array Value) (w : World) : (callFunc 76 args).run Tryz.prog w = (FmtCalls.sprintf #[9, 98] #[9] args).run Tryz.prog w :=
  run_callFunc_next Tryz.func76 (by kernel_rfl) (by kernel_rfl) (by kernel_rfl) args w
@[go_sem] theorem fguard (name : String) (w : World) : (FmtStop.guard name).run Tryz.prog w = .ok () w := by kernel_rfl
theorem nextTurns : Extern.next FmtCalls.turnsRow = some (FmtCalls.begun #[] #[]) := by kernel_rfl
def badF : ByteArray := ⟨#[98, 97, 100, 32, 110, 117, 109, 98, 101, 114, 32, 115, 121, 110, 116, 97, 120, 58, 32, 37, 113]⟩
@[go_sem] theorem fmtB : FmtStop.printed? ⟨#[98, 97, 100, 32, 110, 117, 109, 98, 101, 114, 32, 115, 121, 110, 116, 97, 120, 58, 32, 37, 113]⟩ 1 = some [(0, 113, false)] := by kernel_rfl
@[go_sem] theorem fmtBr (w : World) : (FmtDoors.printed ⟨#[98, 97, 100, 32, 110, 117, 109, 98, 101, 114, 32, 115, 121, 110, 116, 97, 120, 58, 32, 37, 113]⟩ 1).run Tryz.prog w = .ok [(0, 113, false)] w := by kernel_rfl
def shapeS : List UInt8 := [12, 6, 0, 0, 0, 0, 0, 0, 0, 115, 116, 114, 105, 110, 103]
@[go_sem] theorem actS (name : String) (x : Value) (w : World) : (FmtCalls.act name false 113 false (.iface 9 x)).run Tryz.prog w = .ok (.closed false) w := by kernel_rfl
@[go_sem] theorem opS (name : String) (x : ByteArray) (w : World) : (FmtStop.operand name false 113 false (.iface 9 (.string x))).run Tryz.prog w = .ok (shapeS, FmtStop.pack x.data.toList) w := by kernel_rfl
@[go_sem] theorem strS (w : World) : (typeStr 9).run Tryz.prog w = .ok "string" w := by kernel_rfl

theorem LX.s3 {T : Nat} {w : World} {L : Nat} {x : LS} (h : LX T w L x) (v : Value) : LX T (w.setCell ⟨L, 3, none⟩ v) L { x with err := v } := set_of h v

/-- A new file.Error. -/
def errCells (a b : Int) (msg : ByteArray) : Array Value := #[.int .i64 a, .int .i64 b, .int .i64 0, .int .i64 0, .string msg, .string ⟨#[]⟩, .nilIface]

set_option maxRecDepth 100000 in
set_option maxHeartbeats 4000000 in
theorem error_any (F : Interp) (B L V : Nat) (x : LS) (W : ByteArray) (w : World) (hF : F.answers w.tape) (h : LX 60 w L x) (a : Anch B w) (hB : B ≤ L) (he : x.eof = false) (hr : x.err = .pointer none) (hq : x.er ≤ 1073741824)
    (hV : ∃ T : Nat, w.heap[V]? = some (.cells #[.iface 9 (.string W)] T (0, 0))) :
    Calls Tryz.prog 53 #[.pointer (some ⟨L, 0, none⟩), .string badF, .slice (some ⟨V, 0, none⟩) 1 1] w fun e w' => e = .returned .nilFunc ∧ ∃ E msg, w.heap.size ≤ E ∧ Ch [L] w w' ∧ LX 60 w' L { x with err := .pointer (some ⟨E, 0, none⟩) } ∧ w'.heap[E]? = some (.cells (errCells ((x.er : Int) - 1) (x.er : Int) msg) 75 (0, 0)) := by
  have hF' := answers_open hF
  have c3 := h.c3
  rw [hr] at c3
  have c7 := h.c7
  have c8 := h.c8
  rw [he] at c8
  have f3 := h.f 3
  obtain ⟨T, hT⟩ := hV
  have cV := cell_of (i := 0) hT rfl
  have hVl := block_lt hT
  obtain ⟨E, hE⟩ : ∃ E, x.er = E := ⟨_, rfl⟩
  obtain ⟨m, hm⟩ : ∃ m : Int, (x.er : Int) - 1 = m := ⟨_, rfl⟩
  rw [hE] at c7 hq hm
  have hsub : (E : Int) - 1 = m := by omega
  have hEz : (E : Int) ≤ 1073741824 := by omega
  have hmz : m ≤ 1073741824 := by omega
  have hm0 : (-1 : Int) ≤ m := by omega
  have hlt := h.lt
  have HX := Lib.hid h
  have HE := Lib.hid hE
  have HM := Lib.hid hm
  unfold badF
  clear h hr he hT hE hm hq
  go_enter Tryz.func53, Tryz.ntmps53
  go_wp2
  apply rows_value nextTurns
  case hr =>
    go_simp
    exact ⟨rfl, rfl⟩
  case h =>
    go_wp2
    generalize FmtStop.textOf _ = msg
    go_ret
    refine ⟨rfl, w.heap.size, msg, Nat.le_refl _, ?_, ?_, ?_⟩
    · exact (((Ch.refl [L] w).setCell (p := ⟨L, 3, none⟩) (Or.inl (by simp)) _).alloc _).drew
    · exact ((HX.out.s3 _).alloc _).drew
    · rw [HE.out, HM.out]
      have hz : (w.setCell ⟨L, 3, none⟩ (.pointer (some ⟨w.heap.size, 0, none⟩))).heap.size = w.heap.size := by simp [World.setCell]
      have := alloc_new (w.setCell ⟨L, 3, none⟩ (.pointer (some ⟨w.heap.size, 0, none⟩))) (.cells (errCells m (E : Int) msg) 75 (0, 0))
      rw [hz] at this
      exact this

/-- number, where the numeral is refused. -/
def BadPost (B : Nat) (x : LS) (w0 : Base) (L R b n : Nat) (l : List Tk) (w : World) (e : Ending) (w' : World) : Prop :=
  e = .returned .nilFunc ∧ ∃ E msg q r, w.heap.size ≤ E ∧ r ≤ x.s.size ∧ LQ B { x.at q r with err := .pointer (some ⟨E, 0, none⟩) } w0 w' L R b n l ∧ w'.heap[E]? = some (.cells (errCells ((r : Int) - 1) (r : Int) msg) 75 (0, 0))

set_option maxHeartbeats 2000000 in
theorem number_bad (F : Interp) (B : Nat) (x : LS) (w0 : Base) (w : World) (L R b n : Nat) (l : List Tk) (p : Nat) (hF : F.answers w.tape) (h : LQ B (x.at p p) w0 w L R b n l) (hsb : x.sb ≤ p) (hp : p ≤ x.s.size) (hs : x.s.size ≤ 1073741824) (he : x.eof = false) (herr : x.err = .pointer none) (hok : okN x.s p = false) :
    Calls Tryz.prog 33 #[.pointer (some ⟨L, 0, none⟩)] w (BadPost B x w0 L R b n l w) := by
  have cs := scan_any B L x w p ⟨Ch.refl _ _, h.anch, h.lx⟩ h.bL hs hp
  have HX := Lib.hid h
  have HS := Lib.hid (show x.sb ≤ p ∧ x.s.size ≤ 1073741824 ∧ x.eof = false ∧ x.err = .pointer none from ⟨hsb, hs, he, herr⟩)
  clear h hs hsb he herr
  go_enter Tryz.func33, Tryz.ntmps33
  go_wp2_with (fail)
  refine cs.mono ?_
  rintro e w1 ⟨q, r, rfl, hc, ha, hx, hke, h1, h2, h3⟩
  have hq : LQ B (x.at q r) w0 w1 L R b n l := HX.out.step hc hx rfl
  have cw := word_any B L (x.at q r) w1 hq.lx hq.anch (by have := HS.out.1; show x.sb ≤ q; omega) h2 HS.out.2.1
  have HT := Lib.hid (show w1.tape = w.tape ∧ w.heap.size ≤ w1.heap.size ∧ r ≤ x.s.size from ⟨hc.tape, hc.size, by omega⟩)
  have HQ := Lib.hid hq
  rw [hok]
  clear cs hc ha hx hke h1 h2 h3 hq
  go_wp2_with (fail)
  refine cw.mono ?_
  rintro e w2 ⟨rfl, hb2⟩
  have hq2 := HQ.out.below hb2
  clear cw
  obtain ⟨W, hW⟩ : ∃ W, (x.at q r).s.extract (x.at q r).sb (x.at q r).eb = W := ⟨_, rfl⟩
  rw [hW]
  obtain ⟨X, hX⟩ : ∃ X, w2.alloc (.cells #[.iface 9 (.string W)] 20) = X := ⟨_, rfl⟩
  have hbX : Below w2.heap.size w2 X := by rw [← hX]; exact (Below.refl _ _).alloc (Nat.le_refl _) _
  have hq3 := hq2.below hbX
  have HA := Lib.hid (show X.tape = w.tape ∧ w.heap.size ≤ X.heap.size from ⟨hbX.tape.trans (hb2.tape.trans HT.out.1), Nat.le_trans HT.out.2.1 (Nat.le_trans hb2.size hbX.size)⟩)
  have ce := error_any F B L w2.heap.size (x.at q r) W X (by rw [HA.out.1]; exact hF) hq3.lx hq3.anch hq3.bL HS.out.2.2.1 HS.out.2.2.2 (by have := HT.out.2.2; have := HS.out.2.1; show r ≤ _; omega) ⟨20, by rw [← hX]; exact alloc_new w2 _⟩
  have HQ3 := Lib.hid hq3
  clear hq2 hbX hq3 hW hb2 HQ HX
  unfold badF at ce
  go_wp2_with (fail)
  refine ce.mono ?_
  rintro e w3 ⟨rfl, E, msg, hE, hc3, hx3, hblk⟩
  clear ce
  go_wp2
  go_ret
  refine ⟨rfl, E, msg, q, r, Nat.le_trans HA.out.2 hE, HT.out.2.2, HQ3.out.step hc3 hx3 rfl, hblk⟩

end Go.Proofs.YtdlkdojgbiahgaaGreatFmt.Lx
