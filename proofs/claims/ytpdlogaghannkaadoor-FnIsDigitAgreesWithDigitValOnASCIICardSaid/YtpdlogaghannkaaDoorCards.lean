/-
  DERIVED. GIVEN WITH THE SEED: THE CARDS: each row of YtpdlogaghannkaaDoorRows.lean that lists a variable, with what it lists TIED to the program's text (the seventh form; the later family's looks); each row that meets fmt, with fmt's text TOLD by the authors' own Lean function (tested against real Go, not proved from fmt's source: count such statements apart). THE CARD IS WHAT COUNTS. Prove the row's statement (the work); the ties are given (YtpdlogaghannkaaDoorTie.lean); close each card by the builder's one call (the guide's Derived/Test/ToyasCard.lean, 'card_holds'). Laid BY PROGRAM, IN A SANDBOX (cutbox-door.mjs). By AI agents, Wed Nov 11 2026. No macro, syntax, notation, axiom, sorry.
-/
import Derived.Test.YtpdlogaghannkaaDoorRows
import GoSem.ClaimSeven
namespace Go.Proofs.YtpdlogaghannkaaDoor
namespace Rows

/-- THE TIED CARD OF 'n002_109.FnIsDigitAgreesWithDigitValOnASCII'. -/
def fnIsDigitAgreesWithDigitValOnASCIICard : Claim7 := { stood := { row := fnIsDigitAgreesWithDigitValOnASCIIRow, standIns := [], harness := (true, "75f08e418b603586bdfa8057bc69dd257a3096e0c62be196e680b2fe45fd770f"), looks := false }, kinds := [], alts := [], laidByText := true, laidKinds := [.pinned], laidTests := true, laidLooks := .later }
def FnIsDigitAgreesWithDigitValOnASCIICardSaid : Prop := Claim7.holds Tryd.pinned (.plain (OpenSpec.ofChange fnIsDigitAgreesWithDigitValOnASCIISpec)) fnIsDigitAgreesWithDigitValOnASCIICard

/-- THE SECOND FORM's CARD OF 'n002_109.FnIsDigitAgreesWithDigitValOnASCII'. -/
def fnIsDigitAgreesWithDigitValOnASCIIUptoCard : Claim7 := { stood := { row := fnIsDigitAgreesWithDigitValOnASCIIUptoRow, standIns := [], harness := (true, "75f08e418b603586bdfa8057bc69dd257a3096e0c62be196e680b2fe45fd770f"), looks := false }, kinds := [], alts := [], laidByText := true, laidKinds := [.pinned], laidTests := true, laidLooks := .later }
def FnIsDigitAgreesWithDigitValOnASCIIUptoCardSaid : Prop := Claim7.holds Tryd.pinned (.plain (OpenSpec.upto fnIsDigitAgreesWithDigitValOnASCIISpec)) fnIsDigitAgreesWithDigitValOnASCIIUptoCard
end Rows
end Go.Proofs.YtpdlogaghannkaaDoor
