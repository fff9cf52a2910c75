/-
  DERIVED. GIVEN WITH THE SEED: THE CARDS: each row of YtelclbbocnlanaaDoorRows.lean that lists a variable, with what it lists TIED to the program's text (the seventh form; the later family's looks); each row that meets fmt, with fmt's text TOLD by the authors' own Lean function (tested against real Go, not proved from fmt's source: count such statements apart). THE CARD IS WHAT COUNTS. Prove the row's statement (the work); the ties are given (YtelclbbocnlanaaDoorTie.lean); close each card by the builder's one call (the guide's Derived/Test/ToyasCard.lean, 'card_holds'). Laid BY PROGRAM, IN A SANDBOX (cutbox-door.mjs). By AI agents, Wed Nov 11 2026. No macro, syntax, notation, axiom, sorry.
-/
import Derived.Test.YtelclbbocnlanaaDoorRows
import GoSem.ClaimSeven
namespace Go.Proofs.YtelclbbocnlanaaDoor
namespace Rows

/-- THE TIED CARD OF 'n002_92.FnArrayTypeNameIsArrayForEveryArrayResult'. -/
def fnArrayTypeNameIsArrayForEveryArrayResultCard : Claim7 := { stood := { row := fnArrayTypeNameIsArrayForEveryArrayResultRow, standIns := [], harness := (true, "575c5f4c69b0b2776b723d434fbb01c2ce81eb2aff77f7db00ebe546b7cf461a"), looks := true }, kinds := [], alts := [], laidByText := true, laidKinds := [.sentinel], laidTests := true, laidLooks := .later }
def FnArrayTypeNameIsArrayForEveryArrayResultCardSaid : Prop := Claim7.holds Tryd.pinned (.plain (OpenSpec.ofChange fnArrayTypeNameIsArrayForEveryArrayResultSpec)) fnArrayTypeNameIsArrayForEveryArrayResultCard

/-- THE SECOND FORM's CARD OF 'n002_92.FnArrayTypeNameIsArrayForEveryArrayResult'. -/
def fnArrayTypeNameIsArrayForEveryArrayResultUptoCard : Claim7 := { stood := { row := fnArrayTypeNameIsArrayForEveryArrayResultUptoRow, standIns := [], harness := (true, "575c5f4c69b0b2776b723d434fbb01c2ce81eb2aff77f7db00ebe546b7cf461a"), looks := true }, kinds := [], alts := [], laidByText := true, laidKinds := [.sentinel], laidTests := true, laidLooks := .later }
def FnArrayTypeNameIsArrayForEveryArrayResultUptoCardSaid : Prop := Claim7.holds Tryd.pinned (.plain (OpenSpec.upto fnArrayTypeNameIsArrayForEveryArrayResultSpec)) fnArrayTypeNameIsArrayForEveryArrayResultUptoCard
end Rows
end Go.Proofs.YtelclbbocnlanaaDoor
