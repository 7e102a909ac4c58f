/-
  next and backup at a lexer of which nothing but its own block changes: over an ASCII word and at its end.
-/
import Derived.Test.YtdlkdojgbiahgaaGreatFmtLxKinds
namespace Go.Proofs.YtdlkdojgbiahgaaGreatFmt.Lx
open Go.RowKit Go.Lib

theorem nextS (B L : Nat) (x : LS) (w0 w : World) (p : Nat) (h : Sc B L x w0 w p) (hB : B ≤ L) (hs : x.s.size ≤ 1073741824) (hp : p < x.s.size) (h8 : bt x.s p < 128) :
    Calls Tryz.prog 30 #[.pointer (some ⟨L, 0, none⟩)] w fun e w' => e = .returned (.int .i32 (bt x.s p : Int)) ∧ Sc B L x w0 w' (p + 1) := by
  have hd := dec_ascii x.s p h8
  have c := next_yes B L (x.at p p) w h.lx h.anch hp hs (by show p ≤ 1073741824; omega)
  have hd1 : dr (x.at p p).s (x.at p p).eb = bt x.s p := hd.1
  have hd2 : dw (x.at p p).s (x.at p p).eb = 1 := hd.2
  rw [hd1, hd2] at c
  refine c.mono ?_
  rintro e w' ⟨rfl, hc, hx⟩
  exact ⟨rfl, h.ch.trans hc, h.anch.ch1 hc hB, hx⟩

/-- Behind the rune that ends a word. -/
def BkS (B L : Nat) (x : LS) (w0 w : World) (p : Nat) : Prop :=
  (p < x.s.size ∧ bt x.s p < 128 ∧ Sc B L x w0 w (p + 1)) ∨ (Ch [L] w0 w ∧ Anch B w ∧ LX 60 w L { x.at p p with eof := true })
theorem BkS.below {B L : Nat} {x : LS} {w0 w w' : World} {p : Nat} (h : BkS B L x w0 w p) (hb : Below w.heap.size w w') : BkS B L x w0 w' p := by
  rcases h with ⟨h1, h2, h3⟩ | ⟨h1, h2, h3⟩
  · exact Or.inl ⟨h1, h2, h3.below hb⟩
  · exact Or.inr ⟨h1.trans (Ch.of_below hb), h2.below hb, h3.below hb⟩
theorem BkS.tabs {B L : Nat} {x : LS} {w0 w : World} {p : Nat} (h : BkS B L x w0 w p) : Tabs w := by
  rcases h with ⟨h1, h2, h3⟩ | ⟨h1, h2, h3⟩
  · exact h3.anch.tabs
  · exact h2.tabs
theorem next_stopS (B L : Nat) (x : LS) (w0 w : World) (p : Nat) (h : Sc B L x w0 w p) (hB : B ≤ L) (hs : x.s.size ≤ 1073741824) (hE : p < x.s.size → bt x.s p < 128 ∧ an8 (bt x.s p) = false) :
    Calls Tryz.prog 30 #[.pointer (some ⟨L, 0, none⟩)] w fun e w' => ∃ r : Int, e = .returned (.int .i32 r) ∧ anU r = false ∧ -2147483648 ≤ r ∧ r ≤ 2147483647 ∧ BkS B L x w0 w' p := by
  by_cases hlt : p < x.s.size
  · obtain ⟨h8, ha⟩ := hE hlt
    refine (nextS B L x w0 w p h hB hs hlt h8).mono ?_
    rintro e w' ⟨rfl, h1⟩
    exact ⟨_, rfl, by rw [anU_ascii h8, ha], by omega, by omega, Or.inl ⟨hlt, h8, h1⟩⟩
  · refine (next_end B L (x.at p p) w h.lx h.anch (by show x.s.size ≤ p; omega)).mono ?_
    rintro e w' ⟨rfl, hc, hx⟩
    exact ⟨_, rfl, anU_eof, by omega, by omega, Or.inr ⟨h.ch.trans hc, h.anch.ch1 hc hB, hx⟩⟩

set_option maxHeartbeats 1000000 in
theorem backupS (B L : Nat) (x : LS) (w0 w : World) (p : Nat) (h : BkS B L x w0 w p) (hB : B ≤ L) (hs : x.s.size ≤ 1073741824) (he : x.eof = false) :
    Calls Tryz.prog 32 #[.pointer (some ⟨L, 0, none⟩)] w fun e w' => e = .returned (.tuple #[]) ∧ Sc B L x w0 w' p := by
  rcases h with ⟨hp, hb, h⟩ | ⟨h1, h2, h3⟩
  · have c8 := h.lx.c8
    have c7 := h.lx.c7
    simp only [LS.at] at c8 c7
    rw [he] at c8
    have cD := fun W (hT : Tabs W) => Tryz.utf8_DecodeLastRuneInString (x.s.extract 0 (p + 1)) W (by rw [ByteArray.size_extract]; omega) hT.utf
    rw [last_ascii x.s p hp hb] at cD
    have HD := Lib.hid cD
    have hl := h.lx
    have ha := h.anch
    have HC := Lib.hid h.ch
    obtain ⟨E, hE⟩ : ∃ E, p + 1 = E := ⟨_, rfl⟩
    obtain ⟨q, hq⟩ : ∃ q, p = q := ⟨_, rfl⟩
    have hl2 : LX 60 w L (x.at E (q + 1)) := by rw [← hE, ← hq]; exact hl
    rw [hE] at HD
    have c72 : w.cell? ⟨L, 7, none⟩ = some (.int .i64 ((q + 1 : Nat) : Int)) := hl2.c7
    have hsub : (E : Int) - 1 = (p : Int) := by omega
    have hEz : (E : Int) ≤ (x.s.size : Int) := by omega
    have hE3 : E ≤ x.s.size := by omega
    have hpp : (p : Int) ≤ 1073741824 := by omega
    have hpq : (q : Int) ≤ 1073741824 := by omega
    have hq0 : (0 : Int) < (q : Int) + 1 := by omega
    have HQ := Lib.hid hq
    clear h cD he hb hE hl c7 hq
    go_enter Tryz.func32, Tryz.ntmps32
    go_wp2_with (fail)
    go_region_held3 (fun w' => w'.cell? ⟨L, 1, none⟩ = some (.string x.s) ∧ w'.cell? ⟨L, 6, none⟩ = some (.int .i64 (E : Int)) ∧ Hold B L (x.at E (q + 1)) w w')
      (first | exact (Hold.start hl2 ha).drew.s16 | exact (Hold.step ‹_ ∧ _ ∧ Hold _ _ _ _ _›.2.2 hb).s16)
      (first | (go_at_call 41; refine (src_String x.s _).mono ?_; rintro e w' ⟨rfl, hb⟩) | (go_at_call 51; refine (HD.out _ (‹_ ∧ _ ∧ Hold _ _ _ _ _›).2.2.anch.tabs).mono ?_; rintro e w' ⟨rfl, hb⟩))
    obtain ⟨_, _, hG⟩ := (‹_ ∧ _ ∧ Hold _ _ _ _ _›)
    have d6 := hG.lx.c6; have d7 := hG.lx.c7; have f6 := hG.lx.f 6; have f7 := hG.lx.f 7
    simp only [LS.at] at d6 d7
    go_wp2
    go_end0
    have hx := (hG.lx.s6 p).s7 q
    have hc := ((Ch.of_below (S := [L]) hG.bel).setCell (p := ⟨L, 6, none⟩) (Or.inl (by simp)) (.int .i64 (p : Int))).setCell (p := ⟨L, 7, none⟩) (Or.inl (by simp)) (.int .i64 (q : Int))
    refine ⟨rfl, HC.out.trans hc, ha.ch1 hc hB, ?_⟩
    have e := HQ.out
    subst e
    exact hx
  · have c8 := h3.c8
    simp only at c8
    have f8 := h3.f 8
    have HX := Lib.hid h3
    clear h3
    go_enter Tryz.func32, Tryz.ntmps32
    go_wp2
    go_end0
    have hc := (Ch.refl [L] w).setCell (p := ⟨L, 8, none⟩) (Or.inl (by simp)) (.bool false)
    refine ⟨rfl, h1.trans hc, h2.ch1 hc hB, ?_⟩
    have e1 : ({ ({ x.at p p with eof := true } : LS) with eof := false } : LS) = x.at p p := by
      cases x; simp only [LS.at] at he ⊢; subst he; rfl
    have := HX.out.s8 false
    rw [e1] at this
    exact this

end Go.Proofs.YtdlkdojgbiahgaaGreatFmt.Lx
