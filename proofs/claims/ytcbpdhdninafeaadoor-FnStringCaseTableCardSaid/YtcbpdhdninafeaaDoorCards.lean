/-
  DERIVED. GIVEN WITH THE SEED: THE CARDS: each row of YtcbpdhdninafeaaDoorRows.lean that lists a variable, with what it lists TIED to the program's text (the seventh form; the later family's looks); each row that meets fmt, with fmt's text TOLD by the authors' own Lean function (tested against real Go, not proved from fmt's source: count such statements apart). THE CARD IS WHAT COUNTS. Prove the row's statement (the work); the ties are given (YtcbpdhdninafeaaDoorTie.lean); close each card by the builder's one call (the guide's Derived/Test/ToyasCard.lean, 'card_holds'). Laid BY PROGRAM, IN A SANDBOX (cutbox-door.mjs). By AI agents, Wed Nov 11 2026. No macro, syntax, notation, axiom, sorry.
-/
import Derived.Test.YtcbpdhdninafeaaDoorRows
import GoSem.ClaimSeven
namespace Go.Proofs.YtcbpdhdninafeaaDoor
namespace Rows

/-- THE TIED CARD OF 'n002_6.FnPrecedenceBySpelling'. -/
def fnPrecedenceBySpellingCard : Claim7 := { stood := { row := fnPrecedenceBySpellingRow, standIns := [], harness := (true, "22659dfc1065357d6593a0f770ef208182b884824576fefd6babba02ea382fa7"), looks := false }, kinds := [], alts := [], laidByText := true, laidKinds := [.data, .data, .data, .data], laidTests := true, laidLooks := .later }
def FnPrecedenceBySpellingCardSaid : Prop := Claim7.holds Tryd.pinned (.plain (OpenSpec.ofChange fnPrecedenceBySpellingSpec)) fnPrecedenceBySpellingCard

/-- THE TIED CARD OF 'n002_6.FnStringCaseTable'. -/
def fnStringCaseTableCard : Claim7 := { stood := { row := fnStringCaseTableRow, standIns := [], harness := (true, "22659dfc1065357d6593a0f770ef208182b884824576fefd6babba02ea382fa7"), looks := false }, kinds := [], alts := [], laidByText := true, laidKinds := [.data, .data, .data, .data], laidTests := true, laidLooks := .later }
def FnStringCaseTableCardSaid : Prop := Claim7.holds Tryd.pinned (.plain (OpenSpec.ofChange fnStringCaseTableSpec)) fnStringCaseTableCard

/-- THE TIED CARD OF 'n002_6.FnIsOperatorBySpelling'. -/
def fnIsOperatorBySpellingCard : Claim7 := { stood := { row := fnIsOperatorBySpellingRow, standIns := [], harness := (true, "22659dfc1065357d6593a0f770ef208182b884824576fefd6babba02ea382fa7"), looks := false }, kinds := [], alts := [], laidByText := true, laidKinds := [.data, .data, .data, .data], laidTests := true, laidLooks := .later }
def FnIsOperatorBySpellingCardSaid : Prop := Claim7.holds Tryd.pinned (.plain (OpenSpec.ofChange fnIsOperatorBySpellingSpec)) fnIsOperatorBySpellingCard

/-- THE SECOND FORM's CARD OF 'n002_6.FnPrecedenceBySpelling'. -/
def fnPrecedenceBySpellingUptoCard : Claim7 := { stood := { row := fnPrecedenceBySpellingUptoRow, standIns := [], harness := (true, "22659dfc1065357d6593a0f770ef208182b884824576fefd6babba02ea382fa7"), looks := false }, kinds := [], alts := [], laidByText := true, laidKinds := [.data, .data, .data, .data], laidTests := true, laidLooks := .later }
def FnPrecedenceBySpellingUptoCardSaid : Prop := Claim7.holds Tryd.pinned (.plain (OpenSpec.upto fnPrecedenceBySpellingSpec)) fnPrecedenceBySpellingUptoCard

/-- THE SECOND FORM's CARD OF 'n002_6.FnStringCaseTable'. -/
def fnStringCaseTableUptoCard : Claim7 := { stood := { row := fnStringCaseTableUptoRow, standIns := [], harness := (true, "22659dfc1065357d6593a0f770ef208182b884824576fefd6babba02ea382fa7"), looks := false }, kinds := [], alts := [], laidByText := true, laidKinds := [.data, .data, .data, .data], laidTests := true, laidLooks := .later }
def FnStringCaseTableUptoCardSaid : Prop := Claim7.holds Tryd.pinned (.plain (OpenSpec.upto fnStringCaseTableSpec)) fnStringCaseTableUptoCard

/-- THE SECOND FORM's CARD OF 'n002_6.FnIsOperatorBySpelling'. -/
def fnIsOperatorBySpellingUptoCard : Claim7 := { stood := { row := fnIsOperatorBySpellingUptoRow, standIns := [], harness := (true, "22659dfc1065357d6593a0f770ef208182b884824576fefd6babba02ea382fa7"), looks := false }, kinds := [], alts := [], laidByText := true, laidKinds := [.data, .data, .data, .data], laidTests := true, laidLooks := .later }
def FnIsOperatorBySpellingUptoCardSaid : Prop := Claim7.holds Tryd.pinned (.plain (OpenSpec.upto fnIsOperatorBySpellingSpec)) fnIsOperatorBySpellingUptoCard
end Rows
end Go.Proofs.YtcbpdhdninafeaaDoor
