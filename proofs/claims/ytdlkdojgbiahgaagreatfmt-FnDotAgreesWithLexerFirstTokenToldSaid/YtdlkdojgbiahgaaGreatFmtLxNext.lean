/-
  Contracts of the lexer: word, commit, and next where a rune follows. Conditions: the lexer lies in its block, the tables are laid, the text has at most 2^30 bytes.
-/
import Derived.Test.YtdlkdojgbiahgaaGreatFmtLxBase
namespace Go.Proofs.YtdlkdojgbiahgaaGreatFmt.Lx
open Go.RowKit Go.Lib

set_option maxHeartbeats 1000000 in
theorem word_any (B L : Nat) (x : LS) (w : World) (h : LX 60 w L x) (a : Anch B w) (h1 : x.sb ≤ x.eb) (h2 : x.eb ≤ x.s.size) (hs : x.s.size ≤ 1073741824) :
    Calls Tryz.prog 37 #[.pointer (some ⟨L, 0, none⟩)] w fun e w' => e = .returned (.string (x.s.extract x.sb x.eb)) ∧ Below w.heap.size w w' := by
  obtain ⟨st, s, tok, err, sb, sr, eb, er, eof, dis⟩ := x
  simp only at h1 h2 hs ⊢
  go_enter Tryz.func37, Tryz.ntmps37
  go_wp2
  go_region_held3 (fun w' => w'.cell? ⟨L, 1, none⟩ = some (.string s) ∧ w'.cell? ⟨L, 4, none⟩ = some (.int .i64 (sb : Int)) ∧ w'.cell? ⟨L, 6, none⟩ = some (.int .i64 (eb : Int)) ∧ Hold B L ⟨st, s, tok, err, sb, sr, eb, er, eof, dis⟩ w w')
    (first | exact (Hold.start h a).drew.s146 | exact (Hold.step ‹_ ∧ _ ∧ _ ∧ Hold _ _ _ _ _›.2.2.2 hb).s146)
    (first | (go_at_call 41; refine (src_String s _).mono ?_; rintro e w' ⟨rfl, hb⟩))
  have hH := (‹_ ∧ _ ∧ _ ∧ Hold _ _ _ _ _›).2.2.2
  go_wp2
  go_ret
  exact ⟨rfl, hH.bel⟩

theorem commit_any (L : Nat) (x : LS) (w : World) (h : LX 60 w L x) :
    Calls Tryz.prog 78 #[.pointer (some ⟨L, 0, none⟩)] w fun e w' => e = .returned (.tuple #[]) ∧ Ch [L] w w' ∧ LX 60 w' L { x with sb := x.eb, sr := x.er } := by
  have c6 := h.c6; have c7 := h.c7; have c4 := h.c4; have c5 := h.c5
  have f4 := h.f 4; have f5 := h.f 5
  obtain ⟨st, s, tok, err, sb, sr, eb, er, eof, dis⟩ := x
  simp only at c4 c5 c6 c7 ⊢
  go_enter Tryz.func78, Tryz.ntmps78
  go_wp2
  go_end0
  refine ⟨rfl, ((Ch.refl [L] w).setCell (p := ⟨L, 4, none⟩) (Or.inl (by simp)) _).setCell (p := ⟨L, 5, none⟩) (Or.inl (by simp)) _, (h.s4 eb).s5 er⟩

set_option maxHeartbeats 2000000 in
theorem next_yes (B L : Nat) (x : LS) (w : World) (h : LX 60 w L x) (a : Anch B w) (hp : x.eb < x.s.size) (hs : x.s.size ≤ 1073741824) (hr : x.er ≤ 1073741824) :
    Calls Tryz.prog 30 #[.pointer (some ⟨L, 0, none⟩)] w fun e w' => e = .returned (.int .i32 (dr x.s x.eb : Int)) ∧ Ch [L] w w' ∧ LX 60 w' L { x with eb := x.eb + dw x.s x.eb, er := x.er + 1 } := by
  obtain ⟨st, s, tok, err, sb, sr, eb, er, eof, dis⟩ := x
  simp only at hp hs hr ⊢
  have hz : (eb : Int) < (s.size : Int) := by omega
  have hle : eb ≤ s.size := by omega
  have hdw := dw_bounds s eb hp
  have cD := fun W => decRune s eb hp W
  have hrl := dr_le s eb
  generalize dr s eb = R at *
  generalize dw s eb = K at *
  go_enter Tryz.func30, Tryz.ntmps30
  go_wp2
  go_region_held3 (fun w' => w'.cell? ⟨L, 1, none⟩ = some (.string s) ∧ w'.cell? ⟨L, 6, none⟩ = some (.int .i64 (eb : Int)) ∧ Hold B L ⟨st, s, tok, err, sb, sr, eb, er, eof, dis⟩ w w')
    (first | exact (Hold.start h a).drew.s16 | exact (Hold.step ‹_ ∧ _ ∧ Hold _ _ _ _ _›.2.2 hb).s16)
    (first | (go_at_call 41; refine (src_String s _).mono ?_; rintro e w' ⟨rfl, hb⟩))
  obtain ⟨_, _, hH⟩ := (‹_ ∧ _ ∧ Hold _ _ _ _ _›)
  go_wp2
  go_region_held3 (fun w' => w'.cell? ⟨L, 1, none⟩ = some (.string s) ∧ w'.cell? ⟨L, 6, none⟩ = some (.int .i64 (eb : Int)) ∧ Hold B L ⟨st, s, tok, err, sb, sr, eb, er, eof, dis⟩ w w')
    (first | exact hH.drew.s16 | exact (Hold.step ‹_ ∧ _ ∧ Hold _ _ _ _ _›.2.2 hb).s16)
    (first | (go_at_call 41; refine (src_String s _).mono ?_; rintro e w' ⟨rfl, hb⟩) | (go_at_call 48; refine (cD _ (‹_ ∧ _ ∧ Hold _ _ _ _ _›).2.2.anch.tabs).mono ?_; rintro e w' ⟨rfl, hb⟩))
  obtain ⟨_, _, hG⟩ := (‹_ ∧ _ ∧ Hold _ _ _ _ _›)
  clear cD
  have d6 := hG.lx.c6; have d7 := hG.lx.c7; have f6 := hG.lx.f 6; have f7 := hG.lx.f 7
  simp only at d6 d7
  go_wp2
  go_ret
  exact ⟨rfl, ((Ch.of_below hG.bel).setCell (p := ⟨L, 7, none⟩) (Or.inl (by simp)) _).setCell (p := ⟨L, 6, none⟩) (Or.inl (by simp)) _, (hG.lx.s7 (er + 1)).s6 (eb + K)⟩

end Go.Proofs.YtdlkdojgbiahgaaGreatFmt.Lx
