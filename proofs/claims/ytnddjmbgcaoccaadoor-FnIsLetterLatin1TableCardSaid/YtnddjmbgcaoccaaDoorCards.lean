/-
  DERIVED. GIVEN WITH THE SEED: THE CARDS: each row of YtnddjmbgcaoccaaDoorRows.lean that lists a variable, with what it lists TIED to the program's text (the seventh form; the later family's looks); each row that meets fmt, with fmt's text TOLD by the authors' own Lean function (tested against real Go, not proved from fmt's source: count such statements apart). THE CARD IS WHAT COUNTS. Prove the row's statement (the work); the ties are given (YtnddjmbgcaoccaaDoorTie.lean); close each card by the builder's one call (the guide's Derived/Test/ToyasCard.lean, 'card_holds'). Laid BY PROGRAM, IN A SANDBOX (cutbox-door.mjs). By AI agents, Wed Nov 11 2026. No macro, syntax, notation, axiom, sorry.
-/
import Derived.Test.YtnddjmbgcaoccaaDoorRows
import GoSem.ClaimSeven
namespace Go.Proofs.YtnddjmbgcaoccaaDoor
namespace Rows

/-- THE TIED CARD OF 'n002_88.FnIsLetterLatin1Table'. -/
def fnIsLetterLatin1TableCard : Claim7 := { stood := { row := fnIsLetterLatin1TableRow, standIns := [], harness := (true, "8fdd075d1cc37ea40737f355c1468a757f1b16a5012085fc92146b865ce2705a"), looks := false }, kinds := [], alts := [], laidByText := true, laidKinds := [.data, .pinned], laidTests := true, laidLooks := .later }
def FnIsLetterLatin1TableCardSaid : Prop := Claim7.holds Tryd.pinned (.plain (OpenSpec.ofChange fnIsLetterLatin1TableSpec)) fnIsLetterLatin1TableCard

/-- THE SECOND FORM's CARD OF 'n002_88.FnIsLetterLatin1Table'. -/
def fnIsLetterLatin1TableUptoCard : Claim7 := { stood := { row := fnIsLetterLatin1TableUptoRow, standIns := [], harness := (true, "8fdd075d1cc37ea40737f355c1468a757f1b16a5012085fc92146b865ce2705a"), looks := false }, kinds := [], alts := [], laidByText := true, laidKinds := [.data, .pinned], laidTests := true, laidLooks := .later }
def FnIsLetterLatin1TableUptoCardSaid : Prop := Claim7.holds Tryd.pinned (.plain (OpenSpec.upto fnIsLetterLatin1TableSpec)) fnIsLetterLatin1TableUptoCard
end Rows
end Go.Proofs.YtnddjmbgcaoccaaDoor
