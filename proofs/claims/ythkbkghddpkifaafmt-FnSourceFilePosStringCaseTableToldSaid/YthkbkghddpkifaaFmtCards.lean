/-
  DERIVED. GIVEN WITH THE SEED: THE CARDS: each row of YthkbkghddpkifaaFmtRows.lean that lists a variable, with what it lists TIED to the program's text (the seventh form; the later family's looks); each row that meets fmt, with fmt's text TOLD by the authors' own Lean function (tested against real Go, not proved from fmt's source: count such statements apart). THE CARD IS WHAT COUNTS. Prove the row's statement (the work); the ties are given (YthkbkghddpkifaaFmtTie.lean); close each card by the builder's one call (the guide's Derived/Test/ToyasCard.lean, 'card_holds'). Laid BY PROGRAM, IN A SANDBOX (cutbox-door.mjs). By AI agents, Wed Nov 11 2026. No macro, syntax, notation, axiom, sorry.
-/
import Derived.Test.YthkbkghddpkifaaFmtRows
import GoSem.ClaimSeven
namespace Go.Proofs.YthkbkghddpkifaaFmt
namespace Rows

/-- THE TOLD CARD OF 'n002_87.FnSourceFilePosStringCaseTable'. -/
def fnSourceFilePosStringCaseTableCard : Claim7 := { stood := { row := fnSourceFilePosStringCaseTableRow, standIns := [], harness := (true, "0e50e85faaae2c10ee196f6769b35c1d1df53e9e1609ad4b32a12e76beb2863e"), looks := false }, told := true, goes := false }
def FnSourceFilePosStringCaseTableToldSaid : Prop := Claim7.holds Tryf.pinned (.plain (OpenSpec.ofChange fnSourceFilePosStringCaseTableSpec)) fnSourceFilePosStringCaseTableCard
/-- ITS FALSE NEIGHBOUR. Refute it at one input. -/
def FnSourceFilePosStringCaseTableToldWrongFalsely : Prop := Claim7.holds Tryf.pinned (.plain (OpenSpec.ofChange fnSourceFilePosStringCaseTableWrong)) fnSourceFilePosStringCaseTableCard
end Rows
end Go.Proofs.YthkbkghddpkifaaFmt
