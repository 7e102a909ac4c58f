/-
  DERIVED. GIVEN WITH THE SEED: THE CARDS: each row of YtdlkdojgbiahgaaFmtRows.lean that lists a variable, with what it lists TIED to the program's text (the seventh form; the later family's looks); each row that meets fmt, with fmt's text TOLD by the authors' own Lean function (tested against real Go, not proved from fmt's source: count such statements apart). THE CARD IS WHAT COUNTS. Prove the row's statement (the work); the ties are given (YtdlkdojgbiahgaaFmtTie.lean); close each card by the builder's one call (the guide's Derived/Test/ToyasCard.lean, 'card_holds'). Laid BY PROGRAM, IN A SANDBOX (cutbox-door.mjs). By AI agents, Wed Nov 11 2026. No macro, syntax, notation, axiom, sorry.
-/
import Derived.Test.YtdlkdojgbiahgaaFmtRows
import GoSem.ClaimSeven
namespace Go.Proofs.YtdlkdojgbiahgaaFmt
namespace Rows

/-- THE TOLD AND TIED CARD OF 'n003_88.FnScanNumberRescanOfLexemeIsWhole'. -/
def fnScanNumberRescanOfLexemeIsWholeCard : Claim7 := { stood := { row := fnScanNumberRescanOfLexemeIsWholeRow, standIns := [], harness := (true, "4fb0e748a96d98c55a44ace92ca6db9f20434b9d13738991bbc9b04e436f2452"), looks := false }, told := true, laidByText := true, laidKinds := [.data, .listed, .data, .pinned, .pinned, .pinned], laidTests := true, laidLooks := .later, goes := false }
def FnScanNumberRescanOfLexemeIsWholeToldSaid : Prop := Claim7.holds Tryf.pinned (.plain (OpenSpec.ofChange fnScanNumberRescanOfLexemeIsWholeSpec)) fnScanNumberRescanOfLexemeIsWholeCard
/-- ITS FALSE NEIGHBOUR. Refute it at one input. -/
def FnScanNumberRescanOfLexemeIsWholeToldWrongFalsely : Prop := Claim7.holds Tryf.pinned (.plain (OpenSpec.ofChange fnScanNumberRescanOfLexemeIsWholeWrong)) fnScanNumberRescanOfLexemeIsWholeCard

/-- THE TOLD AND TIED CARD OF 'n003_88.FnIdentifierKeywordTable'. -/
def fnIdentifierKeywordTableCard : Claim7 := { stood := { row := fnIdentifierKeywordTableRow, standIns := [], harness := (true, "4fb0e748a96d98c55a44ace92ca6db9f20434b9d13738991bbc9b04e436f2452"), looks := false }, told := true, laidByText := true, laidKinds := [.data, .listed, .data, .pinned, .pinned, .pinned], laidTests := true, laidLooks := .later, goes := false }
def FnIdentifierKeywordTableToldSaid : Prop := Claim7.holds Tryf.pinned (.plain (OpenSpec.ofChange fnIdentifierKeywordTableSpec)) fnIdentifierKeywordTableCard
/-- ITS FALSE NEIGHBOUR. Refute it at one input. -/
def FnIdentifierKeywordTableToldWrongFalsely : Prop := Claim7.holds Tryf.pinned (.plain (OpenSpec.ofChange fnIdentifierKeywordTableWrong)) fnIdentifierKeywordTableCard

/-- THE TOLD AND TIED CARD OF 'n003_75.FnWordConcat'. -/
def fnWordConcatCard : Claim7 := { stood := { row := fnWordConcatRow, standIns := [], harness := (true, "4fb0e748a96d98c55a44ace92ca6db9f20434b9d13738991bbc9b04e436f2452"), looks := false }, told := true, laidByText := true, laidKinds := [.data, .listed, .data, .pinned, .pinned, .pinned], laidTests := true, laidLooks := .later, goes := false }
def FnWordConcatToldSaid : Prop := Claim7.holds Tryf.pinned (.plain (OpenSpec.ofChange fnWordConcatSpec)) fnWordConcatCard
/-- ITS FALSE NEIGHBOUR. Refute it at one input. -/
def FnWordConcatToldWrongFalsely : Prop := Claim7.holds Tryf.pinned (.plain (OpenSpec.ofChange fnWordConcatWrong)) fnWordConcatCard

/-- THE TOLD AND TIED CARD OF 'n003_88.FnNotCaseTable'. -/
def fnNotCaseTableCard : Claim7 := { stood := { row := fnNotCaseTableRow, standIns := [], harness := (true, "4fb0e748a96d98c55a44ace92ca6db9f20434b9d13738991bbc9b04e436f2452"), looks := false }, told := true, laidByText := true, laidKinds := [.data, .listed, .data, .pinned, .pinned, .pinned], laidTests := true, laidLooks := .later, goes := false }
def FnNotCaseTableToldSaid : Prop := Claim7.holds Tryf.pinned (.plain (OpenSpec.ofChange fnNotCaseTableSpec)) fnNotCaseTableCard
/-- ITS FALSE NEIGHBOUR. Refute it at one input. -/
def FnNotCaseTableToldWrongFalsely : Prop := Claim7.holds Tryf.pinned (.plain (OpenSpec.ofChange fnNotCaseTableWrong)) fnNotCaseTableCard

/-- THE TOLD AND TIED CARD OF 'n003_75.FnAcceptExact'. -/
def fnAcceptExactCard : Claim7 := { stood := { row := fnAcceptExactRow, standIns := [], harness := (true, "4fb0e748a96d98c55a44ace92ca6db9f20434b9d13738991bbc9b04e436f2452"), looks := false }, told := true, laidByText := true, laidKinds := [.data, .listed, .data, .pinned, .pinned, .pinned], laidTests := true, laidLooks := .later, goes := false }
def FnAcceptExactToldSaid : Prop := Claim7.holds Tryf.pinned (.plain (OpenSpec.ofChange fnAcceptExactSpec)) fnAcceptExactCard
/-- ITS FALSE NEIGHBOUR. Refute it at one input. -/
def FnAcceptExactToldWrongFalsely : Prop := Claim7.holds Tryf.pinned (.plain (OpenSpec.ofChange fnAcceptExactWrong)) fnAcceptExactCard

/-- THE TOLD AND TIED CARD OF 'n003_75.FnAcceptUnion'. -/
def fnAcceptUnionCard : Claim7 := { stood := { row := fnAcceptUnionRow, standIns := [], harness := (true, "4fb0e748a96d98c55a44ace92ca6db9f20434b9d13738991bbc9b04e436f2452"), looks := false }, told := true, laidByText := true, laidKinds := [.data, .listed, .data, .pinned, .pinned, .pinned], laidTests := true, laidLooks := .later, goes := false }
def FnAcceptUnionToldSaid : Prop := Claim7.holds Tryf.pinned (.plain (OpenSpec.ofChange fnAcceptUnionSpec)) fnAcceptUnionCard
/-- ITS FALSE NEIGHBOUR. Refute it at one input. -/
def FnAcceptUnionToldWrongFalsely : Prop := Claim7.holds Tryf.pinned (.plain (OpenSpec.ofChange fnAcceptUnionWrong)) fnAcceptUnionCard
end Rows
end Go.Proofs.YtdlkdojgbiahgaaFmt
