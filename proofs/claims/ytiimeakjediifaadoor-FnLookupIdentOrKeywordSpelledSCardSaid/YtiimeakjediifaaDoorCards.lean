/-
  DERIVED. GIVEN WITH THE SEED: THE CARDS: each row of YtiimeakjediifaaDoorRows.lean that lists a variable, with what it lists TIED to the program's text (the seventh form; the later family's looks); each row that meets fmt, with fmt's text TOLD by the authors' own Lean function (tested against real Go, not proved from fmt's source: count such statements apart). THE CARD IS WHAT COUNTS. Prove the row's statement (the work); the ties are given (YtiimeakjediifaaDoorTie.lean); close each card by the builder's one call (the guide's Derived/Test/ToyasCard.lean, 'card_holds'). Laid BY PROGRAM, IN A SANDBOX (cutbox-door.mjs). By AI agents, Wed Nov 11 2026. No macro, syntax, notation, axiom, sorry.
-/
import Derived.Test.YtiimeakjediifaaDoorRows
import GoSem.ClaimSeven
namespace Go.Proofs.YtiimeakjediifaaDoor
namespace Rows

/-- THE TIED CARD OF 'n002_28.FnLookupExactTable'. -/
def fnLookupExactTableCard : Claim7 := { stood := { row := fnLookupExactTableRow, standIns := [], harness := (true, "5137410ed5aadb6f118ca5b51a157e30acda1b48fdfff2c3142470f05d41bc89"), looks := false }, kinds := [], alts := [], laidByText := true, laidKinds := [.data], laidTests := true, laidLooks := .later }
def FnLookupExactTableCardSaid : Prop := Claim7.holds Tryd.pinned (.plain (OpenSpec.ofChange fnLookupExactTableSpec)) fnLookupExactTableCard

/-- THE TIED CARD OF 'n002_28.FnIsKeywordIffLookupRoundTrips'. -/
def fnIsKeywordIffLookupRoundTripsCard : Claim7 := { stood := { row := fnIsKeywordIffLookupRoundTripsRow, standIns := [], harness := (true, "5137410ed5aadb6f118ca5b51a157e30acda1b48fdfff2c3142470f05d41bc89"), looks := false }, kinds := [], alts := [], laidByText := true, laidKinds := [.data, .data, .data, .data], laidTests := true, laidLooks := .later }
def FnIsKeywordIffLookupRoundTripsCardSaid : Prop := Claim7.holds Tryd.pinned (.plain (OpenSpec.ofChange fnIsKeywordIffLookupRoundTripsSpec)) fnIsKeywordIffLookupRoundTripsCard

/-- THE TIED CARD OF 'n002_28.FnLookupIdentOrKeywordSpelledS'. -/
def fnLookupIdentOrKeywordSpelledSCard : Claim7 := { stood := { row := fnLookupIdentOrKeywordSpelledSRow, standIns := [], harness := (true, "5137410ed5aadb6f118ca5b51a157e30acda1b48fdfff2c3142470f05d41bc89"), looks := false }, kinds := [], alts := [], laidByText := true, laidKinds := [.data, .data, .data, .data], laidTests := true, laidLooks := .later }
def FnLookupIdentOrKeywordSpelledSCardSaid : Prop := Claim7.holds Tryd.pinned (.plain (OpenSpec.ofChange fnLookupIdentOrKeywordSpelledSSpec)) fnLookupIdentOrKeywordSpelledSCard

/-- THE SECOND FORM's CARD OF 'n002_28.FnLookupExactTable'. -/
def fnLookupExactTableUptoCard : Claim7 := { stood := { row := fnLookupExactTableUptoRow, standIns := [], harness := (true, "5137410ed5aadb6f118ca5b51a157e30acda1b48fdfff2c3142470f05d41bc89"), looks := false }, kinds := [], alts := [], laidByText := true, laidKinds := [.data], laidTests := true, laidLooks := .later }
def FnLookupExactTableUptoCardSaid : Prop := Claim7.holds Tryd.pinned (.plain (OpenSpec.upto fnLookupExactTableSpec)) fnLookupExactTableUptoCard

/-- THE SECOND FORM's CARD OF 'n002_28.FnIsKeywordIffLookupRoundTrips'. -/
def fnIsKeywordIffLookupRoundTripsUptoCard : Claim7 := { stood := { row := fnIsKeywordIffLookupRoundTripsUptoRow, standIns := [], harness := (true, "5137410ed5aadb6f118ca5b51a157e30acda1b48fdfff2c3142470f05d41bc89"), looks := false }, kinds := [], alts := [], laidByText := true, laidKinds := [.data, .data, .data, .data], laidTests := true, laidLooks := .later }
def FnIsKeywordIffLookupRoundTripsUptoCardSaid : Prop := Claim7.holds Tryd.pinned (.plain (OpenSpec.upto fnIsKeywordIffLookupRoundTripsSpec)) fnIsKeywordIffLookupRoundTripsUptoCard

/-- THE SECOND FORM's CARD OF 'n002_28.FnLookupIdentOrKeywordSpelledS'. -/
def fnLookupIdentOrKeywordSpelledSUptoCard : Claim7 := { stood := { row := fnLookupIdentOrKeywordSpelledSUptoRow, standIns := [], harness := (true, "5137410ed5aadb6f118ca5b51a157e30acda1b48fdfff2c3142470f05d41bc89"), looks := false }, kinds := [], alts := [], laidByText := true, laidKinds := [.data, .data, .data, .data], laidTests := true, laidLooks := .later }
def FnLookupIdentOrKeywordSpelledSUptoCardSaid : Prop := Claim7.holds Tryd.pinned (.plain (OpenSpec.upto fnLookupIdentOrKeywordSpelledSSpec)) fnLookupIdentOrKeywordSpelledSUptoCard
end Rows
end Go.Proofs.YtiimeakjediifaaDoor
