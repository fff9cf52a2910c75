/-
  DERIVED. GIVEN WITH THE SEED: THE CARDS: each row of YtmlbaninhkcpgaaFmtRows.lean that lists a variable, with what it lists TIED to the program's text (the seventh form; the later family's looks); each row that meets fmt, with fmt's text TOLD by the authors' own Lean function (tested against real Go, not proved from fmt's source: count such statements apart). THE CARD IS WHAT COUNTS. Prove the row's statement (the work); the ties are given (YtmlbaninhkcpgaaFmtTie.lean); close each card by the builder's one call (the guide's Derived/Test/ToyasCard.lean, 'card_holds'). Laid BY PROGRAM, IN A SANDBOX (cutbox-door.mjs). By AI agents, Wed Nov 11 2026. No macro, syntax, notation, axiom, sorry.
-/
import Derived.Test.YtmlbaninhkcpgaaFmtRows
import GoSem.ClaimSeven
namespace Go.Proofs.YtmlbaninhkcpgaaFmt
namespace Rows

/-- THE TOLD AND TIED CARD OF 'n002_85.FnNewScannerBOMIsSkippedAndShiftsByThree'. -/
def fnNewScannerBOMIsSkippedAndShiftsByThreeCard : Claim7 := { stood := { row := fnNewScannerBOMIsSkippedAndShiftsByThreeRow, standIns := [], harness := (true, "7de0d1ea11e3f8ec9cd6aeaf4b3b546088a4354b77fdfbf4b3d5c05cc7eea2a8"), looks := false }, told := true, laidByText := true, laidKinds := [.data, .data, .data, .pinned, .pinned, .pinned], laidTests := true, laidLooks := .later, goes := false }
def FnNewScannerBOMIsSkippedAndShiftsByThreeToldSaid : Prop := Claim7.holds Tryf.pinned (.plain (OpenSpec.ofChange fnNewScannerBOMIsSkippedAndShiftsByThreeSpec)) fnNewScannerBOMIsSkippedAndShiftsByThreeCard
/-- ITS FALSE NEIGHBOUR. Refute it at one input. -/
def FnNewScannerBOMIsSkippedAndShiftsByThreeToldWrongFalsely : Prop := Claim7.holds Tryf.pinned (.plain (OpenSpec.ofChange fnNewScannerBOMIsSkippedAndShiftsByThreeWrong)) fnNewScannerBOMIsSkippedAndShiftsByThreeCard
end Rows
end Go.Proofs.YtmlbaninhkcpgaaFmt
