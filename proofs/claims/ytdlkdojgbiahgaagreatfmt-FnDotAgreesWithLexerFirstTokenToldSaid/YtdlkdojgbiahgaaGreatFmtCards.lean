/-
  DERIVED. GIVEN WITH THE SEED: THE CARDS: each row of YtdlkdojgbiahgaaGreatFmtRows.lean that lists a variable, with what it lists TIED to the program's text (the seventh form; the later family's looks); each row that meets fmt, with fmt's text TOLD by the authors' own Lean function (tested against real Go, not proved from fmt's source: count such statements apart). THE CARD IS WHAT COUNTS. Prove the row's statement (the work); the ties are given (YtdlkdojgbiahgaaGreatFmtTie.lean); close each card by the builder's one call (the guide's Derived/Test/ToyasCard.lean, 'card_holds'). Laid BY PROGRAM, IN A SANDBOX (cutbox-door.mjs). By AI agents, Wed Nov 11 2026. No macro, syntax, notation, axiom, sorry.
-/
import Derived.Test.YtdlkdojgbiahgaaGreatFmtRows
import GoSem.ClaimSeven
namespace Go.Proofs.YtdlkdojgbiahgaaGreatFmt
namespace Rows

/-- THE TOLD AND TIED CARD OF 'n003_88.FnNotThenWordLexesExactly'. -/
def fnNotThenWordLexesExactlyCard : Claim7 := { stood := { row := fnNotThenWordLexesExactlyRow, standIns := [], harness := (true, "a80adf3f0e7a3dca1bf259378d24c628f345425daa92a1b0d5899774c8bb7e81"), looks := true }, told := true, laidByText := true, laidKinds := [.data, .listed, .data, .pinned, .pinned, .pinned], laidTests := true, laidLooks := .later, goes := false }
def FnNotThenWordLexesExactlyToldSaid : Prop := Claim7.holds Tryz.pinned (.plain (OpenSpec.ofChange fnNotThenWordLexesExactlySpec)) fnNotThenWordLexesExactlyCard
/-- ITS FALSE NEIGHBOUR. Refute it at one input. -/
def FnNotThenWordLexesExactlyToldWrongFalsely : Prop := Claim7.holds Tryz.pinned (.plain (OpenSpec.ofChange fnNotThenWordLexesExactlyWrong)) fnNotThenWordLexesExactlyCard

/-- THE TOLD AND TIED CARD OF 'n003_88.FnDotAgreesWithLexerFirstToken'. -/
def fnDotAgreesWithLexerFirstTokenCard : Claim7 := { stood := { row := fnDotAgreesWithLexerFirstTokenRow, standIns := [], harness := (true, "a80adf3f0e7a3dca1bf259378d24c628f345425daa92a1b0d5899774c8bb7e81"), looks := true }, told := true, laidByText := true, laidKinds := [.data, .listed, .data, .pinned, .pinned, .pinned], laidTests := true, laidLooks := .later, goes := false }
def FnDotAgreesWithLexerFirstTokenToldSaid : Prop := Claim7.holds Tryz.pinned (.plain (OpenSpec.ofChange fnDotAgreesWithLexerFirstTokenSpec)) fnDotAgreesWithLexerFirstTokenCard
/-- ITS FALSE NEIGHBOUR. Refute it at one input. -/
def FnDotAgreesWithLexerFirstTokenToldWrongFalsely : Prop := Claim7.holds Tryz.pinned (.plain (OpenSpec.ofChange fnDotAgreesWithLexerFirstTokenWrong)) fnDotAgreesWithLexerFirstTokenCard

/-- THE TOLD AND TIED CARD OF 'n003_88.FnIdentifierAgreesWithLexerFirstToken'. -/
def fnIdentifierAgreesWithLexerFirstTokenCard : Claim7 := { stood := { row := fnIdentifierAgreesWithLexerFirstTokenRow, standIns := [], harness := (true, "a80adf3f0e7a3dca1bf259378d24c628f345425daa92a1b0d5899774c8bb7e81"), looks := true }, told := true, laidByText := true, laidKinds := [.data, .listed, .data, .pinned, .pinned, .pinned], laidTests := true, laidLooks := .later, goes := false }
def FnIdentifierAgreesWithLexerFirstTokenToldSaid : Prop := Claim7.holds Tryz.pinned (.plain (OpenSpec.ofChange fnIdentifierAgreesWithLexerFirstTokenSpec)) fnIdentifierAgreesWithLexerFirstTokenCard
/-- ITS FALSE NEIGHBOUR. Refute it at one input. -/
def FnIdentifierAgreesWithLexerFirstTokenToldWrongFalsely : Prop := Claim7.holds Tryz.pinned (.plain (OpenSpec.ofChange fnIdentifierAgreesWithLexerFirstTokenWrong)) fnIdentifierAgreesWithLexerFirstTokenCard
end Rows
end Go.Proofs.YtdlkdojgbiahgaaGreatFmt
