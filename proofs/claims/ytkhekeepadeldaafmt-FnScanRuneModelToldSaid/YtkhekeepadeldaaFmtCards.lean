/-
  DERIVED. GIVEN WITH THE SEED: THE CARDS: each row of YtkhekeepadeldaaFmtRows.lean that lists a variable, with what it lists TIED to the program's text (the seventh form; the later family's looks); each row that meets fmt, with fmt's text TOLD by the authors' own Lean function (tested against real Go, not proved from fmt's source: count such statements apart). THE CARD IS WHAT COUNTS. Prove the row's statement (the work); the ties are given (YtkhekeepadeldaaFmtTie.lean); close each card by the builder's one call (the guide's Derived/Test/ToyasCard.lean, 'card_holds'). Laid BY PROGRAM, IN A SANDBOX (cutbox-door.mjs). By AI agents, Wed Nov 11 2026. No macro, syntax, notation, axiom, sorry.
-/
import Derived.Test.YtkhekeepadeldaaFmtRows
import GoSem.ClaimSeven
namespace Go.Proofs.YtkhekeepadeldaaFmt
namespace Rows

/-- THE TOLD AND TIED CARD OF 'n002_74.FnScanDigitsMonotoneInBase'. -/
def fnScanDigitsMonotoneInBaseCard : Claim7 := { stood := { row := fnScanDigitsMonotoneInBaseRow, standIns := [], harness := (true, "2d5417c4bef0ae74b93b8ae1b42a15d5c30b60abb7d5fc7fe7f07c4a22c45762"), looks := false }, told := true, laidByText := true, laidKinds := [.data, .pinned], laidTests := true, laidLooks := .later, goes := false }
def FnScanDigitsMonotoneInBaseToldSaid : Prop := Claim7.holds Tryf.pinned (.plain (OpenSpec.ofChange fnScanDigitsMonotoneInBaseSpec)) fnScanDigitsMonotoneInBaseCard
/-- ITS FALSE NEIGHBOUR. Refute it at one input. -/
def FnScanDigitsMonotoneInBaseToldWrongFalsely : Prop := Claim7.holds Tryf.pinned (.plain (OpenSpec.ofChange fnScanDigitsMonotoneInBaseWrong)) fnScanDigitsMonotoneInBaseCard

/-- THE TOLD AND TIED CARD OF 'n002_74.FnScanEscapeLocalAndShort'. -/
def fnScanEscapeLocalAndShortCard : Claim7 := { stood := { row := fnScanEscapeLocalAndShortRow, standIns := [], harness := (true, "2d5417c4bef0ae74b93b8ae1b42a15d5c30b60abb7d5fc7fe7f07c4a22c45762"), looks := false }, told := true, laidByText := true, laidKinds := [.data, .pinned], laidTests := true, laidLooks := .later, goes := false }
def FnScanEscapeLocalAndShortToldSaid : Prop := Claim7.holds Tryf.pinned (.plain (OpenSpec.ofChange fnScanEscapeLocalAndShortSpec)) fnScanEscapeLocalAndShortCard
/-- ITS FALSE NEIGHBOUR. Refute it at one input. -/
def FnScanEscapeLocalAndShortToldWrongFalsely : Prop := Claim7.holds Tryf.pinned (.plain (OpenSpec.ofChange fnScanEscapeLocalAndShortWrong)) fnScanEscapeLocalAndShortCard

/-- THE TOLD AND TIED CARD OF 'n002_74.FnScanRuneModel'. -/
def fnScanRuneModelCard : Claim7 := { stood := { row := fnScanRuneModelRow, standIns := [], harness := (true, "2d5417c4bef0ae74b93b8ae1b42a15d5c30b60abb7d5fc7fe7f07c4a22c45762"), looks := false }, told := true, laidByText := true, laidKinds := [.data, .pinned], laidTests := true, laidLooks := .later, goes := false }
def FnScanRuneModelToldSaid : Prop := Claim7.holds Tryf.pinned (.plain (OpenSpec.ofChange fnScanRuneModelSpec)) fnScanRuneModelCard
/-- ITS FALSE NEIGHBOUR. Refute it at one input. -/
def FnScanRuneModelToldWrongFalsely : Prop := Claim7.holds Tryf.pinned (.plain (OpenSpec.ofChange fnScanRuneModelWrong)) fnScanRuneModelCard
end Rows
end Go.Proofs.YtkhekeepadeldaaFmt
