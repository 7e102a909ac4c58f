/-
  Contracts of the lexer: next at the end of the text, and peek. Conditions: the lexer lies in its block, the tables are laid.
-/
import Derived.Test.YtdlkdojgbiahgaaGreatFmtLxBase
namespace Go.Proofs.YtdlkdojgbiahgaaGreatFmt.Lx
open Go.RowKit Go.Lib

set_option maxHeartbeats 1000000 in
theorem next_end (B L : Nat) (x : LS) (w : World) (h : LX 60 w L x) (a : Anch B w) (hp : x.s.size ≤ x.eb) :
    Calls Tryz.prog 30 #[.pointer (some ⟨L, 0, none⟩)] w fun e w' => e = .returned (.int .i32 (-1)) ∧ Ch [L] w w' ∧ LX 60 w' L { x with eof := true } := by
  obtain ⟨st, s, tok, err, sb, sr, eb, er, eof, dis⟩ := x
  simp only at hp ⊢
  have hz : (s.size : Int) ≤ (eb : Int) := by omega
  go_enter Tryz.func30, Tryz.ntmps30
  go_wp2
  go_region_held3 (fun w' => w'.cell? ⟨L, 1, none⟩ = some (.string s) ∧ w'.cell? ⟨L, 6, none⟩ = some (.int .i64 (eb : Int)) ∧ Hold B L ⟨st, s, tok, err, sb, sr, eb, er, eof, dis⟩ w w')
    (first | exact (Hold.start h a).drew.s16 | exact (Hold.step ‹_ ∧ _ ∧ Hold _ _ _ _ _›.2.2 hb).s16)
    (first | (go_at_call 41; refine (src_String s _).mono ?_; rintro e w' ⟨rfl, hb⟩))
  obtain ⟨_, _, hG⟩ := (‹_ ∧ _ ∧ Hold _ _ _ _ _›)
  have d8 := hG.lx.c8; have f8 := hG.lx.f 8
  simp only at d8
  go_wp2
  go_ret
  exact ⟨rfl, (Ch.of_below hG.bel).setCell (p := ⟨L, 8, none⟩) (Or.inl (by simp)) _, hG.lx.s8 true⟩

set_option maxHeartbeats 1000000 in
theorem peek_yes (B L : Nat) (x : LS) (w : World) (h : LX 60 w L x) (a : Anch B w) (hp : x.eb < x.s.size) :
    Calls Tryz.prog 50 #[.pointer (some ⟨L, 0, none⟩)] w fun e w' => e = .returned (.int .i32 (dr x.s x.eb : Int)) ∧ Below w.heap.size w w' := by
  obtain ⟨st, s, tok, err, sb, sr, eb, er, eof, dis⟩ := x
  simp only at hp ⊢
  have hz : (eb : Int) < (s.size : Int) := by omega
  have hle : eb ≤ s.size := by omega
  have cD := fun W => decRune s eb hp W
  generalize dr s eb = R at *
  generalize dw s eb = K at *
  go_enter Tryz.func50, Tryz.ntmps50
  go_wp2
  go_region_held3 (fun w' => w'.cell? ⟨L, 1, none⟩ = some (.string s) ∧ w'.cell? ⟨L, 6, none⟩ = some (.int .i64 (eb : Int)) ∧ Hold B L ⟨st, s, tok, err, sb, sr, eb, er, eof, dis⟩ w w')
    (first | exact (Hold.start h a).drew.s16 | exact (Hold.step ‹_ ∧ _ ∧ Hold _ _ _ _ _›.2.2 hb).s16)
    (first | (go_at_call 41; refine (src_String s _).mono ?_; rintro e w' ⟨rfl, hb⟩))
  obtain ⟨_, _, hH⟩ := (‹_ ∧ _ ∧ Hold _ _ _ _ _›)
  go_wp2
  go_region_held3 (fun w' => w'.cell? ⟨L, 1, none⟩ = some (.string s) ∧ w'.cell? ⟨L, 6, none⟩ = some (.int .i64 (eb : Int)) ∧ Hold B L ⟨st, s, tok, err, sb, sr, eb, er, eof, dis⟩ w w')
    (first | exact hH.drew.s16 | exact (Hold.step ‹_ ∧ _ ∧ Hold _ _ _ _ _›.2.2 hb).s16)
    (first | (go_at_call 41; refine (src_String s _).mono ?_; rintro e w' ⟨rfl, hb⟩) | (go_at_call 48; refine (cD _ (‹_ ∧ _ ∧ Hold _ _ _ _ _›).2.2.anch.tabs).mono ?_; rintro e w' ⟨rfl, hb⟩))
  obtain ⟨_, _, hG⟩ := (‹_ ∧ _ ∧ Hold _ _ _ _ _›)
  clear cD
  go_wp2
  go_ret
  exact ⟨rfl, hG.bel⟩

set_option maxHeartbeats 1000000 in
theorem peek_end (B L : Nat) (x : LS) (w : World) (h : LX 60 w L x) (a : Anch B w) (hp : x.s.size ≤ x.eb) :
    Calls Tryz.prog 50 #[.pointer (some ⟨L, 0, none⟩)] w fun e w' => e = .returned (.int .i32 (-1)) ∧ Below w.heap.size w w' := by
  obtain ⟨st, s, tok, err, sb, sr, eb, er, eof, dis⟩ := x
  simp only at hp ⊢
  have hz : ¬ (eb : Int) < (s.size : Int) := by omega
  go_enter Tryz.func50, Tryz.ntmps50
  go_wp2
  go_region_held3 (fun w' => w'.cell? ⟨L, 1, none⟩ = some (.string s) ∧ w'.cell? ⟨L, 6, none⟩ = some (.int .i64 (eb : Int)) ∧ Hold B L ⟨st, s, tok, err, sb, sr, eb, er, eof, dis⟩ w w')
    (first | exact (Hold.start h a).drew.s16 | exact (Hold.step ‹_ ∧ _ ∧ Hold _ _ _ _ _›.2.2 hb).s16)
    (first | (go_at_call 41; refine (src_String s _).mono ?_; rintro e w' ⟨rfl, hb⟩))
  obtain ⟨_, _, hG⟩ := (‹_ ∧ _ ∧ Hold _ _ _ _ _›)
  go_wp2
  go_ret
  exact ⟨rfl, hG.bel⟩

/-- What stands next: -1 at the end. -/
theorem peek_any (B L : Nat) (x : LS) (w : World) (h : LX 60 w L x) (a : Anch B w) :
    Calls Tryz.prog 50 #[.pointer (some ⟨L, 0, none⟩)] w fun e w' => e = .returned (.int .i32 (pk x.s x.eb)) ∧ Below w.heap.size w w' := by
  unfold pk
  by_cases hp : x.eb < x.s.size
  · rw [if_pos hp]; exact peek_yes B L x w h a hp
  · rw [if_neg hp]; exact peek_end B L x w h a (by omega)

end Go.Proofs.YtdlkdojgbiahgaaGreatFmt.Lx
