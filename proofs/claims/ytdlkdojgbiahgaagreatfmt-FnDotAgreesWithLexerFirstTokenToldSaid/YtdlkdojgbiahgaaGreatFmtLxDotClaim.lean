/-
  Over every text of at most 65536 bytes that opens with a full stop: the lexer's first token is dot's own token where dot emits one; else it is a Number from 0 that begins with the same full stop and digit, or the lexer reports an error; the law FnDotAgreesWithLexerFirstToken returns true for every input: its card, told and tied.
  Its conditions: the row's own: the six tables of Go's library that it lists (unicode/utf8.first and acceptRanges, unicode.White_Space, properties, Digit, Letter) hold what their initialisers lay (the card ties that); the texts of fmt are told by the kit's own function (whatever it gives here). The arguments read as they read before.
-/
import Derived.Test.YtdlkdojgbiahgaaGreatFmtLxDotLaw
import Derived.Test.YtdlkdojgbiahgaaGreatFmtLxLaid
import Derived.OpenShut
namespace Go.Proofs.YtdlkdojgbiahgaaGreatFmt.Lx
namespace fnDotAgreesWithLexerFirstToken
open Go.ChangeShapes Go.WideShapes Go.ChangeAt Go.RowKit Go.Lib
open Go.ChangeMaps (open_string shut_string)
open Go.Extern.Stop Go.Stop Go.Extern

noncomputable abbrev spec : OpenSpec := OpenSpec.ofChange Rows.fnDotAgreesWithLexerFirstTokenSpec
theorem witness_row (os : Os) {H : Type} (enc : TypeId × Value → H) :
    spec.preRow enc Tryz.prog Tryz.f4 Rows.fnDotAgreesWithLexerFirstTokenRow.domain false Rows.fnDotAgreesWithLexerFirstTokenRow.laid ((laidWorld os).forCall (fun _ _ => 0) ⟨#[], #[.string ⟨#[]⟩], []⟩).memory #[.string ⟨#[]⟩] := by
  have hw : (DataW.whole enc Tryz.prog ((laidWorld os).forCall (fun _ _ => 0) ⟨#[], #[.string ⟨#[]⟩], []⟩).memory Tryz.f4.params.toList spec.vars false #[Value.string ⟨#[]⟩].toList 8).map (fun x => (x.1, x.2.1)) =
      some ([.lit (.string [])], []) := by kernel_rfl
  obtain ⟨⟨x1, x2, x3⟩, hx, hx1⟩ := Option.map_eq_some_iff.1 hw
  simp only [Prod.mk.injEq] at hx1
  obtain ⟨rfl, rfl⟩ := hx1
  exact OpenSpec.preRow_of_cond 8 hx (by kernel_rfl) (fun k hk => by cases hk) (by kernel_rfl) (laid_met os _)

set_option maxRecDepth 100000 in
set_option maxHeartbeats 4000000 in
theorem lifted (os : Os) (started : os.Started) (H : Type) (enc : TypeId × Value → H) :
    ReturnsInTold none {} Tryz.checked os 4 .any Input.okWide (spec.preRow enc Tryz.prog Tryz.f4 Rows.fnDotAgreesWithLexerFirstTokenRow.domain false Rows.fnDotAgreesWithLexerFirstTokenRow.laid) (fun F => (spec.at F).post enc Tryz.prog Tryz.f4 false true false false) (aloneAtReturn Tryz.prog) nothingAlways := by
  refine returnsInTold_of_row (C := Tryz.checked) (s := spec) (by kernel_rfl) own started (by kernel_rfl) Tryz.func4
    (OpenSpec.witness_stopped_atRef (enc := enc) (C := Tryz.checked) false (laidWorld os) #[.string ⟨#[]⟩] rfl (by kernel_rfl) (by kernel_rfl) (by kernel_rfl) (witness_row os enc)) ?_
  intro F W base args ds gs before _ hFT hval0 hW _ _ _ hL _
  have hval : ∀ (j : Nat) t v, Tryz.f4.params[j]? = some t → args[j]? = some v → Value.okWide Tryz.prog W .any base t v := hval0
  have hW' := hW
  obtain ⟨p, q, hA0, hV0, rfl, _, _⟩ := hW
  have hA : DataW.TrodAll enc Tryz.prog W 0 (fun _ => true) true Tryz.f4.params.toList args.toList ds p := hA0
  rw [Tryz.params4] at hA hval
  obtain ⟨v0, d0, rfl, rfl, h0⟩ := trodAll_one hA
  obtain ⟨rfl, rfl⟩ := trodVars_none hV0
  obtain ⟨s0, rfl, rfl, rfl, ws0⟩ := open_string Tryz.underlying9 (hval 0 9 v0 rfl rfl) h0
  clear hA0 hV0 hval0
  have hL' : laidMet Tryz.prog laidAll W := hL
  refine (dot_walk F.told s0 W hFT (tabs_of_laid hL')).mono ?_
  rintro e W' ⟨rfl, bel⟩
  have e1 : (spec.at F.told).fn H ([.lit (.string s0.data.toList)] ++ []) = { results := [.lit (.bool true)], args := [.lit (.string s0.data.toList)] } := rfl
  refine ⟨_, rfl, _, _, _, [], [], [], hW', ?_, ?_, ?_, bel.frame _, fun h => by cases h⟩
  · rw [e1]; exact trodAll_mk1 (shut_bool Tryz.underlying4 true)
  · rw [e1]; exact trodAll_mk1 (shut_string Tryz.underlying9 ws0)
  · rw [e1]; rfl

theorem laidOut : laidOutB Tryz.pinned.checked.prog = true := by kernel_rfl
theorem stops : Tryz.pinned.checked.prog.stops = ["fmt.Sprintf, its operands' methods called", "fmt.errorf"] := by kernel_rfl
theorem stopKnobs : Tryz.pinned.checked.prog.stopKnobs = [] := by kernel_rfl
theorem quiet (os : Os) : Stop.quiet Tryz.pinned.checked.prog os := by
  intro k hk
  rw [stopKnobs] at hk
  cases hk

/-- FnDotAgreesWithLexerFirstToken, THE CARD: TOLD AND TIED. -/
theorem holds : Rows.FnDotAgreesWithLexerFirstTokenToldSaid :=
  Claim7.holds_of_told_tied_any_at .later 4 Tryz.f4 "fmt.Sprintf, its operands' methods called" ["fmt.errorf"] [] _ _ _ _ _ (by kernel_rfl) rfl rfl rfl laidOut (by kernel_rfl) rfl ⟨rfl, rfl, rfl, rfl, rfl, rfl, rfl⟩ rfl rfl (by kernel_rfl) (by kernel_rfl) Tryz.func4 (by kernel_rfl)
    (of_decide_eq_true (by kernel_rfl)) (by unfold Func.isWrapper; rw [if_neg (of_decide_eq_false (by kernel_rfl))]; exact ⟨rfl, rfl⟩) stops.symm rfl stopKnobs.symm (by kernel_rfl)
    (by kernel_rfl) (by kernel_rfl) (by kernel_rfl) (by kernel_rfl) (by kernel_rfl) (by kernel_rfl) (by kernel_rfl) (by kernel_rfl) (by kernel_rfl) rfl (by kernel_rfl) rfl rfl
    rfl rfl
    rfl (by kernel_rfl) (by kernel_rfl) (by kernel_rfl) (by decide) (by kernel_rfl) fnDotAgreesWithLexerFirstToken_row_tie
    (OpenClaim.moreEntering_of (by kernel_rfl) (by kernel_rfl) (by kernel_rfl) (by kernel_rfl) (by kernel_rfl) (by kernel_rfl) (by kernel_rfl) (by kernel_rfl) (by kernel_rfl) (by kernel_rfl))
    ⟨_, WideRow.started_initial, quiet _⟩
    (fun os started _ H enc _ => lifted os started H enc)

#print axioms holds
end fnDotAgreesWithLexerFirstToken
end Go.Proofs.YtdlkdojgbiahgaaGreatFmt.Lx
