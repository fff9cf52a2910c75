/-
  DERIVED. GIVEN WITH THE SEED: THE CARDS: each row of YtamfekpcoppbgaaFmtRows.lean that lists a variable, with what it lists TIED to the program's text (the seventh form; the later family's looks); each row that meets fmt, with fmt's text TOLD by the authors' own Lean function (tested against real Go, not proved from fmt's source: count such statements apart). THE CARD IS WHAT COUNTS. Prove the row's statement (the work); the ties are given (YtamfekpcoppbgaaFmtTie.lean); close each card by the builder's one call (the guide's Derived/Test/ToyasCard.lean, 'card_holds'). Laid BY PROGRAM, IN A SANDBOX (cutbox-door.mjs). By AI agents, Wed Nov 11 2026. No macro, syntax, notation, axiom, sorry.
-/
import Derived.Test.YtamfekpcoppbgaaFmtRows
import GoSem.ClaimSeven
namespace Go.Proofs.YtamfekpcoppbgaaFmt
namespace Rows

/-- THE TOLD AND TIED CARD OF 'n002_96.FnScanTerminatesWithMonotonePositionsAndSourceLiterals'. -/
def fnScanTerminatesWithMonotonePositionsAndSourceLiteralsCard : Claim7 := { stood := { row := fnScanTerminatesWithMonotonePositionsAndSourceLiteralsRow, standIns := [], harness := (true, "23a87c57b1481c8616438b0e49bfe52aac4bb99bc26374e946eccb00efe50ee9"), looks := false }, told := true, laidByText := true, laidKinds := [.data, .data, .data, .pinned, .pinned, .pinned], laidTests := true, laidLooks := .later, goes := false }
def FnScanTerminatesWithMonotonePositionsAndSourceLiteralsToldSaid : Prop := Claim7.holds Tryf.pinned (.plain (OpenSpec.ofChange fnScanTerminatesWithMonotonePositionsAndSourceLiteralsSpec)) fnScanTerminatesWithMonotonePositionsAndSourceLiteralsCard
/-- ITS FALSE NEIGHBOUR. Refute it at one input. -/
def FnScanTerminatesWithMonotonePositionsAndSourceLiteralsToldWrongFalsely : Prop := Claim7.holds Tryf.pinned (.plain (OpenSpec.ofChange fnScanTerminatesWithMonotonePositionsAndSourceLiteralsWrong)) fnScanTerminatesWithMonotonePositionsAndSourceLiteralsCard

/-- THE TOLD AND TIED CARD OF 'n002_96.FnScanTokensOfDigitsAndPunctuation'. -/
def fnScanTokensOfDigitsAndPunctuationCard : Claim7 := { stood := { row := fnScanTokensOfDigitsAndPunctuationRow, standIns := [], harness := (true, "23a87c57b1481c8616438b0e49bfe52aac4bb99bc26374e946eccb00efe50ee9"), looks := false }, told := true, laidByText := true, laidKinds := [.data, .data, .data, .pinned, .pinned, .pinned], laidTests := true, laidLooks := .later, goes := false }
def FnScanTokensOfDigitsAndPunctuationToldSaid : Prop := Claim7.holds Tryf.pinned (.plain (OpenSpec.ofChange fnScanTokensOfDigitsAndPunctuationSpec)) fnScanTokensOfDigitsAndPunctuationCard
/-- ITS FALSE NEIGHBOUR. Refute it at one input. -/
def FnScanTokensOfDigitsAndPunctuationToldWrongFalsely : Prop := Claim7.holds Tryf.pinned (.plain (OpenSpec.ofChange fnScanTokensOfDigitsAndPunctuationWrong)) fnScanTokensOfDigitsAndPunctuationCard

/-- THE TOLD AND TIED CARD OF 'n002_96.FnPeekForetellsNextAndMovesNothing'. -/
def fnPeekForetellsNextAndMovesNothingCard : Claim7 := { stood := { row := fnPeekForetellsNextAndMovesNothingRow, standIns := [], harness := (true, "23a87c57b1481c8616438b0e49bfe52aac4bb99bc26374e946eccb00efe50ee9"), looks := false }, told := true, laidByText := true, laidKinds := [.data, .pinned], laidTests := true, laidLooks := .later, goes := false }
def FnPeekForetellsNextAndMovesNothingToldSaid : Prop := Claim7.holds Tryf.pinned (.plain (OpenSpec.ofChange fnPeekForetellsNextAndMovesNothingSpec)) fnPeekForetellsNextAndMovesNothingCard
/-- ITS FALSE NEIGHBOUR. Refute it at one input. -/
def FnPeekForetellsNextAndMovesNothingToldWrongFalsely : Prop := Claim7.holds Tryf.pinned (.plain (OpenSpec.ofChange fnPeekForetellsNextAndMovesNothingWrong)) fnPeekForetellsNextAndMovesNothingCard

/-- THE TOLD AND TIED CARD OF 'n002_96.FnNextRecordsLineStarts'. -/
def fnNextRecordsLineStartsCard : Claim7 := { stood := { row := fnNextRecordsLineStartsRow, standIns := [], harness := (true, "23a87c57b1481c8616438b0e49bfe52aac4bb99bc26374e946eccb00efe50ee9"), looks := false }, told := true, laidByText := true, laidKinds := [.data, .pinned], laidTests := true, laidLooks := .later, goes := false }
def FnNextRecordsLineStartsToldSaid : Prop := Claim7.holds Tryf.pinned (.plain (OpenSpec.ofChange fnNextRecordsLineStartsSpec)) fnNextRecordsLineStartsCard
/-- ITS FALSE NEIGHBOUR. Refute it at one input. -/
def FnNextRecordsLineStartsToldWrongFalsely : Prop := Claim7.holds Tryf.pinned (.plain (OpenSpec.ofChange fnNextRecordsLineStartsWrong)) fnNextRecordsLineStartsCard

/-- THE TOLD AND TIED CARD OF 'n002_96.FnErrorCountNeverDecreasesUnderScan'. -/
def fnErrorCountNeverDecreasesUnderScanCard : Claim7 := { stood := { row := fnErrorCountNeverDecreasesUnderScanRow, standIns := [], harness := (true, "23a87c57b1481c8616438b0e49bfe52aac4bb99bc26374e946eccb00efe50ee9"), looks := false }, told := true, laidByText := true, laidKinds := [.data, .data, .data, .pinned, .pinned, .pinned], laidTests := true, laidLooks := .later, goes := false }
def FnErrorCountNeverDecreasesUnderScanToldSaid : Prop := Claim7.holds Tryf.pinned (.plain (OpenSpec.ofChange fnErrorCountNeverDecreasesUnderScanSpec)) fnErrorCountNeverDecreasesUnderScanCard
/-- ITS FALSE NEIGHBOUR. Refute it at one input. -/
def FnErrorCountNeverDecreasesUnderScanToldWrongFalsely : Prop := Claim7.holds Tryf.pinned (.plain (OpenSpec.ofChange fnErrorCountNeverDecreasesUnderScanWrong)) fnErrorCountNeverDecreasesUnderScanCard
end Rows
end Go.Proofs.YtamfekpcoppbgaaFmt
