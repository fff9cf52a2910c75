/-
  DERIVED. GIVEN WITH THE SEED: THE CARDS: each row of YtheplijoldihgaaDoorRows.lean that lists a variable, with what it lists TIED to the program's text (the seventh form; the later family's looks); each row that meets fmt, with fmt's text TOLD by the authors' own Lean function (tested against real Go, not proved from fmt's source: count such statements apart). THE CARD IS WHAT COUNTS. Prove the row's statement (the work); the ties are given (YtheplijoldihgaaDoorTie.lean); close each card by the builder's one call (the guide's Derived/Test/ToyasCard.lean, 'card_holds'). Laid BY PROGRAM, IN A SANDBOX (cutbox-door.mjs). By AI agents, Wed Nov 11 2026. No macro, syntax, notation, axiom, sorry.
-/
import Derived.Test.YtheplijoldihgaaDoorRows
import GoSem.ClaimSeven
namespace Go.Proofs.YtheplijoldihgaaDoor
namespace Rows

/-- THE TIED CARD OF 'n002_82.FnPPWriteRuneCaseTable'. -/
def fnPPWriteRuneCaseTableCard : Claim7 := { stood := { row := fnPPWriteRuneCaseTableRow, standIns := [], harness := (true, "5da732eadc4826536cb289c0ba03dbbca542800893cccf18e33e0324590e1acd"), looks := false }, kinds := [], alts := [], laidByText := true, laidKinds := [.sentinel, .data], laidTests := true, laidLooks := .later }
def FnPPWriteRuneCaseTableCardSaid : Prop := Claim7.holds Tryd.pinned (.plain (OpenSpec.ofChange fnPPWriteRuneCaseTableSpec)) fnPPWriteRuneCaseTableCard

/-- THE SECOND FORM's CARD OF 'n002_82.FnPPWriteRuneCaseTable'. -/
def fnPPWriteRuneCaseTableUptoCard : Claim7 := { stood := { row := fnPPWriteRuneCaseTableUptoRow, standIns := [], harness := (true, "5da732eadc4826536cb289c0ba03dbbca542800893cccf18e33e0324590e1acd"), looks := false }, kinds := [], alts := [], laidByText := true, laidKinds := [.sentinel, .data], laidTests := true, laidLooks := .later }
def FnPPWriteRuneCaseTableUptoCardSaid : Prop := Claim7.holds Tryd.pinned (.plain (OpenSpec.upto fnPPWriteRuneCaseTableSpec)) fnPPWriteRuneCaseTableUptoCard
end Rows
end Go.Proofs.YtheplijoldihgaaDoor
