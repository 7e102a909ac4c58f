/-
  The contracts of emitEOF and of root at the end of the text. Conditions: lexer, ring and slots lie in new blocks, the tables are laid.
-/
import Derived.Test.YtdlkdojgbiahgaaGreatFmtLxFirst
namespace Go.Proofs.YtdlkdojgbiahgaaGreatFmt.Lx
open Go.RowKit Go.Lib

set_option maxHeartbeats 4000000 in
theorem emitEOF_LQ (B : Nat) (x : LS) (w0 : Base) (w : World) (L R b n : Nat) (l : List Tk) (h : LQ B x w0 w L R b n l) (hr : b + n < 10) (he : x.er ≤ 1073741824) :
    Calls Tryz.prog 55 #[.pointer (some ⟨L, 0, none⟩)] w fun e w' => e = .returned (.tuple #[]) ∧ LQ B { x with sb := x.eb, sr := x.er } w0 w' L R b (n + 1) (l.set (b + n) ⟨x.er - 1, x.er, eofT, ⟨#[]⟩⟩) := by
  have c2 := h.lx.c2
  rw [h.tok] at c2
  have c7 := h.lx.c7
  have ce := enq_LQ B x w0 w L R b n l ⟨x.er - 1, x.er, eofT, ⟨#[]⟩⟩ h hr
  unfold Tk.val at ce
  have HC := Lib.hid fun W (hx : LQ B x w0 W L R b (n + 1) (l.set (b + n) ⟨x.er - 1, x.er, eofT, ⟨#[]⟩⟩)) => (commit_any L x W hx.lx).mono (fun e W' (hh : e = .returned (.tuple #[]) ∧ Ch [L] W W' ∧ LX 60 W' L { x with sb := x.eb, sr := x.er }) => (⟨hh.1, hx.step hh.2.1 hh.2.2 rfl⟩ : e = .returned (.tuple #[]) ∧ LQ B { x with sb := x.eb, sr := x.er } w0 W' L R b (n + 1) (l.set (b + n) ⟨x.er - 1, x.er, eofT, ⟨#[]⟩⟩)))
  clear h
  by_cases hz : x.er = 0
  · rw [hz] at c7 ce
    have HZ := Lib.hid hz
    clear hz he
    go_enter Tryz.func55, Tryz.ntmps55
    go_wp2_with (fail)
    refine ce.mono ?_
    rintro e w1 ⟨rfl, hq⟩
    rw [HZ.out] at HC
    have c1 := HC.out _ hq
    clear HC hq ce c2 c7
    go_wp2_with (fail)
    refine c1.mono ?_
    rintro e w2 ⟨rfl, hq⟩
    go_wp2
    go_end0
    rw [HZ.out]
    exact ⟨rfl, hq⟩
  · obtain ⟨E, hE⟩ : ∃ E, x.er = E := ⟨_, rfl⟩
    obtain ⟨m, hm⟩ : ∃ m, x.er - 1 = m := ⟨_, rfl⟩
    have hsub : (E : Int) - 1 = (m : Int) := by omega
    have hEz : (E : Int) ≤ 1073741824 := by omega
    have hmz : (m : Int) ≤ 1073741824 := by omega
    have hm0 : (0 : Int) ≤ (m : Int) := by omega
    rw [hm] at ce
    rw [hE] at c7 ce
    have HZ := Lib.hid hE
    have HM := Lib.hid hm
    clear hz he hE hm
    go_enter Tryz.func55, Tryz.ntmps55
    go_wp2_with (fail)
    refine ce.mono ?_
    rintro e w1 ⟨rfl, hq⟩
    rw [HM.out, HZ.out] at HC
    have c1 := HC.out _ hq
    clear HC hq ce c2 c7
    go_wp2_with (fail)
    refine c1.mono ?_
    rintro e w2 ⟨rfl, hq⟩
    go_wp2
    go_end0
    rw [HM.out, HZ.out]
    exact ⟨rfl, hq⟩

set_option maxRecDepth 100000 in
set_option maxHeartbeats 4000000 in
/-- root at the end of the text. -/
theorem root_eof (B : Nat) (x : LS) (w0 : Base) (w : World) (L R b n : Nat) (l : List Tk) (h : LQ B x w0 w L R b n l) (hr : b + n < 10) (hp : x.s.size ≤ x.eb) (he : x.er ≤ 1073741824) :
    Calls Tryz.prog 35 #[.pointer (some ⟨L, 0, none⟩)] w fun e w' => e = .returned .nilFunc ∧ LQ B { x with sb := x.eb, sr := x.er, eof := true } w0 w' L R b (n + 1) (l.set (b + n) ⟨x.er - 1, x.er, eofT, ⟨#[]⟩⟩) := by
  have cn := next_LQ_end B x w0 w L R b n l h hp
  have HE := Lib.hid fun W hq => emitEOF_LQ B { x with eof := true } w0 W L R b n l hq hr he
  clear h
  go_enter Tryz.func35, Tryz.ntmps35
  go_wp2_with (fail)
  refine cn.mono ?_
  rintro e w1 ⟨rfl, hq⟩
  have c1 := HE.out _ hq
  clear HE hq cn
  go_wp2_with (fail)
  refine c1.mono ?_
  rintro e w2 ⟨rfl, hz⟩
  go_wp2
  exact bodyPost_ret (v := .nilFunc) (results_tmp (t := 2) Tryz.results35 _ _ _) rfl ⟨rfl, hz⟩

end Go.Proofs.YtdlkdojgbiahgaaGreatFmt.Lx
