/-
  DERIVED. GIVEN WITH THE SEED: THE CARDS: each row of YthhmkkpginddbaaFmtRows.lean that lists a variable, with what it lists TIED to the program's text (the seventh form; the later family's looks); each row that meets fmt, with fmt's text TOLD by the authors' own Lean function (tested against real Go, not proved from fmt's source: count such statements apart). THE CARD IS WHAT COUNTS. Prove the row's statement (the work); the ties are given (YthhmkkpginddbaaFmtTie.lean); close each card by the builder's one call (the guide's Derived/Test/ToyasCard.lean, 'card_holds'). Laid BY PROGRAM, IN A SANDBOX (cutbox-door.mjs). By AI agents, Wed Nov 11 2026. No macro, syntax, notation, axiom, sorry.
-/
import Derived.Test.YthhmkkpginddbaaFmtRows
import GoSem.ClaimSeven
namespace Go.Proofs.YthhmkkpginddbaaFmt
namespace Rows

/-- THE TOLD AND TIED CARD OF 'n002_140.FnScanIdentifierLongestRun'. -/
def fnScanIdentifierLongestRunCard : Claim7 := { stood := { row := fnScanIdentifierLongestRunRow, standIns := [], harness := (true, "f52ba49af70ceeff82574e9ada3da35ddfff1df701ba9af8d631ed93ca9fa683"), looks := false }, told := true, laidByText := true, laidKinds := [.data, .data, .pinned, .pinned, .pinned], laidTests := true, laidLooks := .later, goes := false }
def FnScanIdentifierLongestRunToldSaid : Prop := Claim7.holds Tryf.pinned (.plain (OpenSpec.ofChange fnScanIdentifierLongestRunSpec)) fnScanIdentifierLongestRunCard
/-- ITS FALSE NEIGHBOUR. Refute it at one input. -/
def FnScanIdentifierLongestRunToldWrongFalsely : Prop := Claim7.holds Tryf.pinned (.plain (OpenSpec.ofChange fnScanIdentifierLongestRunWrong)) fnScanIdentifierLongestRunCard

/-- THE TOLD AND TIED CARD OF 'n002_140.FnFindLineEndMatchesModel'. -/
def fnFindLineEndMatchesModelCard : Claim7 := { stood := { row := fnFindLineEndMatchesModelRow, standIns := [], harness := (true, "f52ba49af70ceeff82574e9ada3da35ddfff1df701ba9af8d631ed93ca9fa683"), looks := false }, told := true, laidByText := true, laidKinds := [.data, .data, .data, .pinned, .pinned, .pinned], laidTests := true, laidLooks := .later, goes := false }
def FnFindLineEndMatchesModelToldSaid : Prop := Claim7.holds Tryf.pinned (.plain (OpenSpec.ofChange fnFindLineEndMatchesModelSpec)) fnFindLineEndMatchesModelCard
/-- ITS FALSE NEIGHBOUR. Refute it at one input. -/
def FnFindLineEndMatchesModelToldWrongFalsely : Prop := Claim7.holds Tryf.pinned (.plain (OpenSpec.ofChange fnFindLineEndMatchesModelWrong)) fnFindLineEndMatchesModelCard

/-- THE TOLD AND TIED CARD OF 'n002_140.FnFindLineEndLeavesScannerAsFound'. -/
def fnFindLineEndLeavesScannerAsFoundCard : Claim7 := { stood := { row := fnFindLineEndLeavesScannerAsFoundRow, standIns := [], harness := (true, "f52ba49af70ceeff82574e9ada3da35ddfff1df701ba9af8d631ed93ca9fa683"), looks := false }, told := true, laidByText := true, laidKinds := [.data, .data, .data, .pinned, .pinned, .pinned], laidTests := true, laidLooks := .later, goes := false }
def FnFindLineEndLeavesScannerAsFoundToldSaid : Prop := Claim7.holds Tryf.pinned (.plain (OpenSpec.ofChange fnFindLineEndLeavesScannerAsFoundSpec)) fnFindLineEndLeavesScannerAsFoundCard
/-- ITS FALSE NEIGHBOUR. Refute it at one input. -/
def FnFindLineEndLeavesScannerAsFoundToldWrongFalsely : Prop := Claim7.holds Tryf.pinned (.plain (OpenSpec.ofChange fnFindLineEndLeavesScannerAsFoundWrong)) fnFindLineEndLeavesScannerAsFoundCard

/-- THE TOLD AND TIED CARD OF 'n002_140.FnScanCommentMatchesModel'. -/
def fnScanCommentMatchesModelCard : Claim7 := { stood := { row := fnScanCommentMatchesModelRow, standIns := [], harness := (true, "f52ba49af70ceeff82574e9ada3da35ddfff1df701ba9af8d631ed93ca9fa683"), looks := false }, told := true, laidByText := true, laidKinds := [.data, .pinned], laidTests := true, laidLooks := .later, goes := false }
def FnScanCommentMatchesModelToldSaid : Prop := Claim7.holds Tryf.pinned (.plain (OpenSpec.ofChange fnScanCommentMatchesModelSpec)) fnScanCommentMatchesModelCard
/-- ITS FALSE NEIGHBOUR. Refute it at one input. -/
def FnScanCommentMatchesModelToldWrongFalsely : Prop := Claim7.holds Tryf.pinned (.plain (OpenSpec.ofChange fnScanCommentMatchesModelWrong)) fnScanCommentMatchesModelCard
end Rows
end Go.Proofs.YthhmkkpginddbaaFmt
