/-
  DERIVED. GIVEN WITH THE SEED: THE CARDS: each row of YtampnakogmhhhaaDoorRows.lean that lists a variable, with what it lists TIED to the program's text (the seventh form; the later family's looks); each row that meets fmt, with fmt's text TOLD by the authors' own Lean function (tested against real Go, not proved from fmt's source: count such statements apart). THE CARD IS WHAT COUNTS. Prove the row's statement (the work); the ties are given (YtampnakogmhhhaaDoorTie.lean); close each card by the builder's one call (the guide's Derived/Test/ToyasCard.lean, 'card_holds'). Laid BY PROGRAM, IN A SANDBOX (cutbox-door.mjs). By AI agents, Wed Nov 11 2026. No macro, syntax, notation, axiom, sorry.
-/
import Derived.Test.YtampnakogmhhhaaDoorRows
import GoSem.ClaimSeven
namespace Go.Proofs.YtampnakogmhhhaaDoor
namespace Rows

/-- THE TIED CARD OF 'n002_72.FnWriteConcatenates'. -/
def fnWriteConcatenatesCard : Claim7 := { stood := { row := fnWriteConcatenatesRow, standIns := [], harness := (true, "d654e3ffdcc21fb47c00d5cf248fd3cdcbb733b3a85647b5c77b5c8a81ba4c4b"), looks := false }, kinds := [], alts := [], laidByText := true, laidKinds := [.sentinel, .data], laidTests := true, laidLooks := .later }
def FnWriteConcatenatesCardSaid : Prop := Claim7.holds Tryd.pinned (.plain (OpenSpec.ofChange fnWriteConcatenatesSpec)) fnWriteConcatenatesCard

/-- THE SECOND FORM's CARD OF 'n002_72.FnWriteConcatenates'. -/
def fnWriteConcatenatesUptoCard : Claim7 := { stood := { row := fnWriteConcatenatesUptoRow, standIns := [], harness := (true, "d654e3ffdcc21fb47c00d5cf248fd3cdcbb733b3a85647b5c77b5c8a81ba4c4b"), looks := false }, kinds := [], alts := [], laidByText := true, laidKinds := [.sentinel, .data], laidTests := true, laidLooks := .later }
def FnWriteConcatenatesUptoCardSaid : Prop := Claim7.holds Tryd.pinned (.plain (OpenSpec.upto fnWriteConcatenatesSpec)) fnWriteConcatenatesUptoCard
end Rows
end Go.Proofs.YtampnakogmhhhaaDoor
