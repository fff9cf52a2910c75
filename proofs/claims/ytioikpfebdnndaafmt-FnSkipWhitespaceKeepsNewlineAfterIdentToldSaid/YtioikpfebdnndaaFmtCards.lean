/-
  DERIVED. GIVEN WITH THE SEED: THE CARDS: each row of YtioikpfebdnndaaFmtRows.lean that lists a variable, with what it lists TIED to the program's text (the seventh form; the later family's looks); each row that meets fmt, with fmt's text TOLD by the authors' own Lean function (tested against real Go, not proved from fmt's source: count such statements apart). THE CARD IS WHAT COUNTS. Prove the row's statement (the work); the ties are given (YtioikpfebdnndaaFmtTie.lean); close each card by the builder's one call (the guide's Derived/Test/ToyasCard.lean, 'card_holds'). Laid BY PROGRAM, IN A SANDBOX (cutbox-door.mjs). By AI agents, Wed Nov 11 2026. No macro, syntax, notation, axiom, sorry.
-/
import Derived.Test.YtioikpfebdnndaaFmtRows
import GoSem.ClaimSeven
namespace Go.Proofs.YtioikpfebdnndaaFmt
namespace Rows

/-- THE TOLD AND TIED CARD OF 'n002_114.FnScanRawStringAsciiErrorIffUnclosed'. -/
def fnScanRawStringAsciiErrorIffUnclosedCard : Claim7 := { stood := { row := fnScanRawStringAsciiErrorIffUnclosedRow, standIns := [], harness := (true, "7e98436df9fdb4302a979010b445708e1c6a94e0659b0444e129462353da9192"), looks := false }, told := true, laidByText := true, laidKinds := [.data, .pinned], laidTests := true, laidLooks := .later, goes := false }
def FnScanRawStringAsciiErrorIffUnclosedToldSaid : Prop := Claim7.holds Tryf.pinned (.plain (OpenSpec.ofChange fnScanRawStringAsciiErrorIffUnclosedSpec)) fnScanRawStringAsciiErrorIffUnclosedCard
/-- ITS FALSE NEIGHBOUR. Refute it at one input. -/
def FnScanRawStringAsciiErrorIffUnclosedToldWrongFalsely : Prop := Claim7.holds Tryf.pinned (.plain (OpenSpec.ofChange fnScanRawStringAsciiErrorIffUnclosedWrong)) fnScanRawStringAsciiErrorIffUnclosedCard

/-- THE TOLD AND TIED CARD OF 'n002_114.FnScanStringSimpleEscapesCounted'. -/
def fnScanStringSimpleEscapesCountedCard : Claim7 := { stood := { row := fnScanStringSimpleEscapesCountedRow, standIns := [], harness := (true, "7e98436df9fdb4302a979010b445708e1c6a94e0659b0444e129462353da9192"), looks := false }, told := true, laidByText := true, laidKinds := [.data, .pinned], laidTests := true, laidLooks := .later, goes := false }
def FnScanStringSimpleEscapesCountedToldSaid : Prop := Claim7.holds Tryf.pinned (.plain (OpenSpec.ofChange fnScanStringSimpleEscapesCountedSpec)) fnScanStringSimpleEscapesCountedCard
/-- ITS FALSE NEIGHBOUR. Refute it at one input. -/
def FnScanStringSimpleEscapesCountedToldWrongFalsely : Prop := Claim7.holds Tryf.pinned (.plain (OpenSpec.ofChange fnScanStringSimpleEscapesCountedWrong)) fnScanStringSimpleEscapesCountedCard

/-- THE TOLD AND TIED CARD OF 'n002_114.FnSkipWhitespaceKeepsNewlineAfterIdent'. -/
def fnSkipWhitespaceKeepsNewlineAfterIdentCard : Claim7 := { stood := { row := fnSkipWhitespaceKeepsNewlineAfterIdentRow, standIns := [], harness := (true, "7e98436df9fdb4302a979010b445708e1c6a94e0659b0444e129462353da9192"), looks := false }, told := true, laidByText := true, laidKinds := [.data, .data, .data, .pinned, .pinned, .pinned], laidTests := true, laidLooks := .later, goes := false }
def FnSkipWhitespaceKeepsNewlineAfterIdentToldSaid : Prop := Claim7.holds Tryf.pinned (.plain (OpenSpec.ofChange fnSkipWhitespaceKeepsNewlineAfterIdentSpec)) fnSkipWhitespaceKeepsNewlineAfterIdentCard
/-- ITS FALSE NEIGHBOUR. Refute it at one input. -/
def FnSkipWhitespaceKeepsNewlineAfterIdentToldWrongFalsely : Prop := Claim7.holds Tryf.pinned (.plain (OpenSpec.ofChange fnSkipWhitespaceKeepsNewlineAfterIdentWrong)) fnSkipWhitespaceKeepsNewlineAfterIdentCard
end Rows
end Go.Proofs.YtioikpfebdnndaaFmt
