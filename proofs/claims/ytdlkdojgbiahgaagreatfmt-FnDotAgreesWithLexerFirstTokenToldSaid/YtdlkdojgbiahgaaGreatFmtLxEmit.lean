/-
  Contracts of the lexer with its ring: emitValue, emit, backup, next, skipSpaces. Conditions: lexer, ring and slots lie in new blocks, the tables are laid.
-/
import Derived.Test.YtdlkdojgbiahgaaGreatFmtLxQueue
import Derived.StillTailTactics
import Derived.Lib.TrimAscii
namespace Go.Proofs.YtdlkdojgbiahgaaGreatFmt.Lx
open Go.RowKit Go.Lib

/-- A world, and blocks of it that stand. -/
structure Base where
  wd : World
  kp : Nat → Prop
instance : Coe World Base := ⟨fun w => ⟨w, fun _ => False⟩⟩
/-- The ring: over its ten slots, or fresh. -/
def RQ (B L : Nat) (kp : Nat → Prop) (w : World) (R b n : Nat) (l : List Tk) : Prop :=
  (∃ D, B ≤ D ∧ D ≠ L ∧ ¬ kp D ∧ RX 70 33 w R D b n l) ∨ (RN 70 w R ∧ b = 0 ∧ n = 0 ∧ l = List.replicate 10 Tk.none)
/-- A lexer and its ring, both new since w0. -/
structure LQ (B : Nat) (x : LS) (w0 : Base) (w : World) (L R b n : Nat) (l : List Tk) : Prop where
  bel : Below B w0.wd w
  anch : Anch B w
  bL : B ≤ L
  bR : B ≤ R
  ne : L ≠ R
  lx : LX 60 w L x
  tok : x.tok = .pointer (some ⟨R, 0, none⟩)
  rq : RQ B L w0.kp w R b n l
  kq : ∀ k, w0.kp k → k < w0.wd.heap.size ∧ k ≠ L ∧ k ≠ R ∧ w.heap[k]? = w0.wd.heap[k]?
theorem RQ.below {B L : Nat} {kp : Nat → Prop} {w w' : World} {R b n : Nat} {l : List Tk} (h : RQ B L kp w R b n l) (hb : Below w.heap.size w w') : RQ B L kp w' R b n l := by
  rcases h with ⟨D, h1, h2, h2n, h3⟩ | ⟨h1, h2⟩
  · exact Or.inl ⟨D, h1, h2, h2n, h3.below hb⟩
  · exact Or.inr ⟨(hb.block _ h1.lt).trans h1, h2⟩
theorem RQ.ch {B L : Nat} {kp : Nat → Prop} {w w' : World} {R b n : Nat} {l : List Tk} (h : RQ B L kp w R b n l) (hc : Ch [L] w w') (hne : L ≠ R) : RQ B L kp w' R b n l := by
  rcases h with ⟨D, h1, h2, h2n, h3⟩ | ⟨h1, h2⟩
  · exact Or.inl ⟨D, h1, h2, h2n, h3.ch hc (by simpa using Ne.symm hne) (by simpa using h2)⟩
  · exact Or.inr ⟨hc.keep h1 (by simpa using Ne.symm hne), h2⟩
theorem LQ.below {B : Nat} {x : LS} {w0 : Base} {w w' : World} {L R b n : Nat} {l : List Tk} (h : LQ B x w0 w L R b n l) (hb : Below w.heap.size w w') : LQ B x w0 w' L R b n l :=
  ⟨h.bel.trans (hb.mono h.anch.le), h.anch.below hb, h.bL, h.bR, h.ne, h.lx.below hb, h.tok, h.rq.below hb, fun k hk => have q := h.kq k hk; ⟨q.1, q.2.1, q.2.2.1, (hb.block k (Nat.lt_of_lt_of_le q.1 h.bel.size)).trans q.2.2.2⟩⟩
theorem LQ.step {B : Nat} {x y : LS} {w0 : Base} {w w' : World} {L R b n : Nat} {l : List Tk} (h : LQ B x w0 w L R b n l) (hc : Ch [L] w w') (hx : LX 60 w' L y) (ht : y.tok = x.tok) : LQ B y w0 w' L R b n l :=
  ⟨h.bel.trans (hc.below (fun k hk => by simp at hk; have := h.bL; omega) h.anch.le), h.anch.ch1 hc h.bL, h.bL, h.bR, h.ne, hx, ht.trans h.tok, h.rq.ch hc h.ne, fun k hk => have q := h.kq k hk; ⟨q.1, q.2.1, q.2.2.1, (hc.block k (Nat.lt_of_lt_of_le q.1 h.bel.size) (by simpa using q.2.1)).trans q.2.2.2⟩⟩

/-- Enqueue at a lexer's ring. -/
theorem enq_LQ (B : Nat) (x : LS) (w0 : Base) (w : World) (L R b n : Nat) (l : List Tk) (t : Tk) (h : LQ B x w0 w L R b n l) (hr : b + n < 10) :
    Calls Tryz.prog 77 #[.pointer (some ⟨R, 0, none⟩), t.val] w fun e w' => e = .returned (.tuple #[]) ∧ LQ B x w0 w' L R b (n + 1) (l.set (b + n) t) := by
  rcases h.rq with ⟨D, h1, h2, h2n, h3⟩ | ⟨h1, rfl, rfl, rfl⟩
  · refine (ring_put R D b n l t w h3 hr).mono ?_
    rintro e w' ⟨rfl, hc, hx⟩
    have hS : ∀ k, k ∈ [R, D] → B ≤ k := fun k hk => by
      simp at hk
      have := h.bR
      rcases hk with rfl | rfl <;> omega
    exact ⟨rfl, h.bel.trans (hc.below hS h.anch.le), h.anch.ch hc hS, h.bL, h.bR, h.ne, h.lx.ch hc (by simp; exact ⟨h.ne, Ne.symm h2⟩), h.tok, Or.inl ⟨D, h1, h2, h2n, hx⟩, fun k hk => have q := h.kq k hk; ⟨q.1, q.2.1, q.2.2.1, (hc.block k (Nat.lt_of_lt_of_le q.1 h.bel.size) (by simp; exact ⟨q.2.2.1, fun e => h2n (e ▸ hk)⟩)).trans q.2.2.2⟩⟩
  · refine (ring_first R t w h1).mono ?_
    rintro e w' ⟨rfl, hc, D, hD, hx⟩
    have hS : ∀ k, k ∈ [R] → B ≤ k := fun k hk => by
      simp at hk
      have := h.bR
      omega
    have hlt := h.lx.lt
    have hle := h.anch.le
    refine ⟨rfl, h.bel.trans (hc.below hS h.anch.le), h.anch.ch hc hS, h.bL, h.bR, h.ne, h.lx.ch hc (by simpa using h.ne), h.tok, Or.inl ⟨D, by omega, by omega, fun hk => by have q := h.kq D hk; have := h.bel.size; omega, hx⟩, fun k hk => have q := h.kq k hk; ⟨q.1, q.2.1, q.2.2.1, (hc.block k (Nat.lt_of_lt_of_le q.1 h.bel.size) (by simpa using q.2.2.1)).trans q.2.2.2⟩⟩

set_option maxHeartbeats 2000000 in
theorem emitValue_LQ (B : Nat) (x : LS) (w0 : Base) (w : World) (L R b n : Nat) (l : List Tk) (kind txt : ByteArray) (h : LQ B x w0 w L R b n l) (hr : b + n < 10) :
    Calls Tryz.prog 54 #[.pointer (some ⟨L, 0, none⟩), .string kind, .string txt] w fun e w' => e = .returned (.tuple #[]) ∧ LQ B { x with sb := x.eb, sr := x.er } w0 w' L R b (n + 1) (l.set (b + n) ⟨x.sr, x.er, kind, txt⟩) := by
  have c2 := h.lx.c2
  rw [h.tok] at c2
  have c5 := h.lx.c5
  have c7 := h.lx.c7
  have HX := Lib.hid h
  clear h
  go_enter Tryz.func54, Tryz.ntmps54
  go_wp2_with (fail)
  set_option maxRecDepth 100000 in
  go_still_tail 18, (by kernel_rfl)
  change wpList _ _ _ _ _ w.drew
  obtain ⟨W, hW⟩ : ∃ W, w.drew = W := ⟨_, rfl⟩
  have h2 : LQ B x w0 W L R b n l := by
    rw [← hW]
    have hb : Below w.heap.size w w.drew := ⟨rfl, rfl, rfl, Nat.le_refl _, fun _ _ => rfl⟩
    exact HX.out.below hb
  rw [hW]
  clear hW HX c2 c5 c7
  have ce := enq_LQ B x w0 W L R b n l ⟨x.sr, x.er, kind, txt⟩ h2 hr
  clear h2
  go_wp2_with (fail)
  refine ce.mono ?_
  rintro e w2 ⟨rfl, h3⟩
  clear ce
  have cc := commit_any L x w2 h3.lx
  have HX := Lib.hid h3
  clear h3
  go_wp2_with (fail)
  refine cc.mono ?_
  rintro e w3 ⟨rfl, hc, hx⟩
  clear cc
  go_wp2
  go_end0
  exact ⟨rfl, HX.out.step hc hx rfl⟩

theorem emit_LQ (B : Nat) (x : LS) (w0 : Base) (w : World) (L R b n : Nat) (l : List Tk) (kind : ByteArray) (h : LQ B x w0 w L R b n l) (hr : b + n < 10) (h1 : x.sb ≤ x.eb) (h2 : x.eb ≤ x.s.size) (hs : x.s.size ≤ 1073741824) :
    Calls Tryz.prog 34 #[.pointer (some ⟨L, 0, none⟩), .string kind] w fun e w' => e = .returned (.tuple #[]) ∧ LQ B { x with sb := x.eb, sr := x.er } w0 w' L R b (n + 1) (l.set (b + n) ⟨x.sr, x.er, kind, x.s.extract x.sb x.eb⟩) := by
  have cw := word_any B L x w h.lx h.anch h1 h2 hs
  have ce := fun W hW => emitValue_LQ B x w0 W L R b n l kind (x.s.extract x.sb x.eb) hW hr
  have HE := Lib.hid ce
  have HX := Lib.hid h
  clear ce h
  go_enter Tryz.func34, Tryz.ntmps34
  go_wp2_with (fail)
  refine cw.mono ?_
  rintro e w1 ⟨rfl, hb⟩
  clear cw
  go_wp2_with (fail)
  refine (HE.out _ (HX.out.below hb)).mono ?_
  rintro e w2 ⟨rfl, h3⟩
  clear HE HX
  go_wp2
  go_end0
  exact ⟨rfl, h3⟩

theorem skip_LQ (B : Nat) (x : LS) (w0 : Base) (w : World) (L R b n : Nat) (l : List Tk) (h : LQ B x w0 w L R b n l) :
    Calls Tryz.prog 57 #[.pointer (some ⟨L, 0, none⟩)] w fun e w' => e = .returned (.tuple #[]) ∧ LQ B { x with sb := x.eb, sr := x.er } w0 w' L R b n l := by
  have cc := commit_any L x w h.lx
  have HX := Lib.hid h
  clear h
  go_enter Tryz.func57, Tryz.ntmps57
  go_wp2_with (fail)
  refine cc.mono ?_
  rintro e w3 ⟨rfl, hc, hx⟩
  go_wp2
  go_end0
  exact ⟨rfl, HX.out.step hc hx rfl⟩

/-- The set of the one space. -/
def sp : ByteArray := ⟨#[32]⟩
theorem asc_sp : Asc sp := asc_of_B rfl
theorem skipSpaces_LQ (B : Nat) (x : LS) (w0 : Base) (w : World) (L R b n : Nat) (l : List Tk) (p : Nat) (h : LQ B (x.at p p) w0 w L R b n l) (hs : x.s.size ≤ 1073741824) (hp : p ≤ x.s.size) :
    Calls Tryz.prog 67 #[.pointer (some ⟨L, 0, none⟩)] w fun e w' => e = .returned (.tuple #[]) ∧ LQ B { x with sb := run x.s sp p, sr := run x.s sp p, eb := run x.s sp p, er := run x.s sp p } w0 w' L R b n l := by
  have cr := runS B L x sp w w p ⟨Ch.refl _ _, h.anch, h.lx⟩ h.bL hs hp asc_sp
  have cs := fun W hW => skip_LQ B (x.at (run x.s sp p) (run x.s sp p)) w0 W L R b n l hW
  have HS := Lib.hid cs
  have HX := Lib.hid h
  clear cs h
  go_enter Tryz.func67, Tryz.ntmps67
  go_wp2_with (fail)
  refine cr.mono ?_
  rintro e w1 ⟨rfl, hsc, hc⟩
  clear cr
  have h2 : LQ B (x.at (run x.s sp p) (run x.s sp p)) w0 w1 L R b n l := HX.out.step hc hsc.lx rfl
  have h3 := HS.out _ h2
  clear h2 HS HX hsc hc
  go_wp2_with (fail)
  refine h3.mono ?_
  rintro e w2 ⟨rfl, h4⟩
  clear h3
  go_wp2
  go_end0
  exact ⟨rfl, h4⟩

/-- backup at the end of the text. -/
theorem backup_eof (B : Nat) (x : LS) (w0 : Base) (w : World) (L R b n : Nat) (l : List Tk) (h : LQ B x w0 w L R b n l) (he : x.eof = true) :
    Calls Tryz.prog 32 #[.pointer (some ⟨L, 0, none⟩)] w fun e w' => e = .returned (.tuple #[]) ∧ LQ B { x with eof := false } w0 w' L R b n l := by
  have c8 := h.lx.c8
  rw [he] at c8
  have f8 := h.lx.f 8
  have HX := Lib.hid h
  clear h he
  go_enter Tryz.func32, Tryz.ntmps32
  go_wp2
  go_end0
  have h := HX.out
  exact ⟨rfl, h.step ((Ch.refl [L] w).setCell (p := ⟨L, 8, none⟩) (Or.inl (by simp)) _) (h.lx.s8 false) rfl⟩

theorem last_ascii (s : ByteArray) (p : Nat) (hp : p < s.size) (hb : bt s p < 128) : Lib.decodeLastL (s.extract 0 (p + 1)).data.toList = (bt s p, 1) := by
  have e : (s.extract 0 (p + 1)).data.toList = (s.extract 0 p).data.toList ++ [s[p]'hp] := by
    have hz : s.data.toList.length = s.size := rfl
    rw [ByteArray.data_extract, ByteArray.data_extract, Array.toList_extract, Array.toList_extract, List.extract_eq_take_drop, List.extract_eq_take_drop, List.drop_zero, Nat.sub_zero, Nat.sub_zero, List.take_succ_eq_append_getElem (by omega)]
    rfl
  rw [e, Lib.decodeLastL_ascii _ _ (by rw [← bt_get s p hp]; exact hb), bt_get s p hp]

set_option maxHeartbeats 1000000 in
/-- backup over a rune below 128. -/
theorem backup_ascii (B : Nat) (x : LS) (w0 : Base) (w : World) (L R b n : Nat) (l : List Tk) (p q : Nat) (h : LQ B (x.at (p + 1) (q + 1)) w0 w L R b n l) (he : x.eof = false) (hp : p < x.s.size) (hs : x.s.size ≤ 1073741824) (hb : bt x.s p < 128) (hq : q ≤ p) :
    Calls Tryz.prog 32 #[.pointer (some ⟨L, 0, none⟩)] w fun e w' => e = .returned (.tuple #[]) ∧ LQ B (x.at p q) w0 w' L R b n l := by
  have c8 := h.lx.c8
  have c7 := h.lx.c7
  simp only [LS.at] at c8 c7
  rw [he] at c8
  have cD := fun W (hT : Tabs W) => Tryz.utf8_DecodeLastRuneInString (x.s.extract 0 (p + 1)) W (by rw [ByteArray.size_extract]; omega) hT.utf
  rw [last_ascii x.s p hp hb] at cD
  have HD := Lib.hid cD
  have HX := Lib.hid h
  have hl := h.lx
  have ha := h.anch
  obtain ⟨E, hE⟩ : ∃ E, p + 1 = E := ⟨_, rfl⟩
  rw [hE] at HD HX hl
  have hsub : (E : Int) - 1 = (p : Int) := by omega
  have hEz : (E : Int) ≤ (x.s.size : Int) := by omega
  have hE3 : E ≤ x.s.size := by omega
  have hpp : (p : Int) ≤ 1073741824 := by omega
  have hpq : (q : Int) ≤ 1073741824 := by omega
  have hq0 : (0 : Int) < (q : Int) + 1 := by omega
  clear h cD he hb hE
  go_enter Tryz.func32, Tryz.ntmps32
  go_wp2_with (fail)
  go_region_held3 (fun w' => w'.cell? ⟨L, 1, none⟩ = some (.string x.s) ∧ w'.cell? ⟨L, 6, none⟩ = some (.int .i64 (E : Int)) ∧ Hold B L (x.at E (q + 1)) w w')
    (first | exact (Hold.start hl ha).drew.s16 | exact (Hold.step ‹_ ∧ _ ∧ Hold _ _ _ _ _›.2.2 hb).s16)
    (first | (go_at_call 41; refine (src_String x.s _).mono ?_; rintro e w' ⟨rfl, hb⟩) | (go_at_call 51; refine (HD.out _ (‹_ ∧ _ ∧ Hold _ _ _ _ _›).2.2.anch.tabs).mono ?_; rintro e w' ⟨rfl, hb⟩))
  obtain ⟨_, _, hG⟩ := (‹_ ∧ _ ∧ Hold _ _ _ _ _›)
  have d6 := hG.lx.c6; have d7 := hG.lx.c7; have f6 := hG.lx.f 6; have f7 := hG.lx.f 7
  simp only [LS.at] at d6 d7
  go_wp2
  go_end0
  exact ⟨rfl, HX.out.step (((Ch.of_below hG.bel).setCell (p := ⟨L, 6, none⟩) (Or.inl (by simp)) _).setCell (p := ⟨L, 7, none⟩) (Or.inl (by simp)) _) ((hG.lx.s6 p).s7 q) rfl⟩

theorem next_LQ (B : Nat) (x : LS) (w0 : Base) (w : World) (L R b n : Nat) (l : List Tk) (h : LQ B x w0 w L R b n l) (hp : x.eb < x.s.size) (hs : x.s.size ≤ 1073741824) (hr : x.er ≤ 1073741824) :
    Calls Tryz.prog 30 #[.pointer (some ⟨L, 0, none⟩)] w fun e w' => e = .returned (.int .i32 (dr x.s x.eb : Int)) ∧ LQ B (x.at (x.eb + dw x.s x.eb) (x.er + 1)) w0 w' L R b n l := by
  refine (next_yes B L x w h.lx h.anch hp hs hr).mono ?_
  rintro e w' ⟨rfl, hc, hx⟩
  exact ⟨rfl, h.step hc hx rfl⟩
theorem next_LQ_end (B : Nat) (x : LS) (w0 : Base) (w : World) (L R b n : Nat) (l : List Tk) (h : LQ B x w0 w L R b n l) (hp : x.s.size ≤ x.eb) :
    Calls Tryz.prog 30 #[.pointer (some ⟨L, 0, none⟩)] w fun e w' => e = .returned (.int .i32 (-1)) ∧ LQ B { x with eof := true } w0 w' L R b n l := by
  refine (next_end B L x w h.lx h.anch hp).mono ?_
  rintro e w' ⟨rfl, hc, hx⟩
  exact ⟨rfl, h.step hc hx rfl⟩

end Go.Proofs.YtdlkdojgbiahgaaGreatFmt.Lx
