/-
  DERIVED. GIVEN WITH THE SEED: THE CARDS: each row of YtfiinkdobcoihaaDoorRows.lean that lists a variable, with what it lists TIED to the program's text (the seventh form; the later family's looks); each row that meets fmt, with fmt's text TOLD by the authors' own Lean function (tested against real Go, not proved from fmt's source: count such statements apart). THE CARD IS WHAT COUNTS. Prove the row's statement (the work); the ties are given (YtfiinkdobcoihaaDoorTie.lean); close each card by the builder's one call (the guide's Derived/Test/ToyasCard.lean, 'card_holds'). Laid BY PROGRAM, IN A SANDBOX (cutbox-door.mjs). By AI agents, Wed Nov 11 2026. No macro, syntax, notation, axiom, sorry.
-/
import Derived.Test.YtfiinkdobcoihaaDoorRows
import GoSem.ClaimSeven
namespace Go.Proofs.YtfiinkdobcoihaaDoor
namespace Rows

/-- THE TIED CARD OF 'n002_91.FnFmt0x64RoundTrip'. -/
def fnFmt0x64RoundTripCard : Claim7 := { stood := { row := fnFmt0x64RoundTripRow, standIns := [], harness := (true, "b55e730c7afb7cd5350cf2ee6809172cb2998f94026a9e100e0ef230a31dab26"), looks := false }, kinds := [], alts := [], laidByText := true, laidKinds := [.sentinel, .data], laidTests := true, laidLooks := .later }
def FnFmt0x64RoundTripCardSaid : Prop := Claim7.holds Tryd.pinned (.plain (OpenSpec.ofChange fnFmt0x64RoundTripSpec)) fnFmt0x64RoundTripCard

/-- THE TIED CARD OF 'n002_91.FnFmt0x64Whole'. -/
def fnFmt0x64WholeCard : Claim7 := { stood := { row := fnFmt0x64WholeRow, standIns := [], harness := (true, "b55e730c7afb7cd5350cf2ee6809172cb2998f94026a9e100e0ef230a31dab26"), looks := false }, kinds := [], alts := [], laidByText := true, laidKinds := [.sentinel, .data], laidTests := true, laidLooks := .later }
def FnFmt0x64WholeCardSaid : Prop := Claim7.holds Tryd.pinned (.plain (OpenSpec.ofChange fnFmt0x64WholeSpec)) fnFmt0x64WholeCard

/-- THE SECOND FORM's CARD OF 'n002_91.FnFmt0x64RoundTrip'. -/
def fnFmt0x64RoundTripUptoCard : Claim7 := { stood := { row := fnFmt0x64RoundTripUptoRow, standIns := [], harness := (true, "b55e730c7afb7cd5350cf2ee6809172cb2998f94026a9e100e0ef230a31dab26"), looks := false }, kinds := [], alts := [], laidByText := true, laidKinds := [.sentinel, .data], laidTests := true, laidLooks := .later }
def FnFmt0x64RoundTripUptoCardSaid : Prop := Claim7.holds Tryd.pinned (.plain (OpenSpec.upto fnFmt0x64RoundTripSpec)) fnFmt0x64RoundTripUptoCard

/-- THE SECOND FORM's CARD OF 'n002_91.FnFmt0x64Whole'. -/
def fnFmt0x64WholeUptoCard : Claim7 := { stood := { row := fnFmt0x64WholeUptoRow, standIns := [], harness := (true, "b55e730c7afb7cd5350cf2ee6809172cb2998f94026a9e100e0ef230a31dab26"), looks := false }, kinds := [], alts := [], laidByText := true, laidKinds := [.sentinel, .data], laidTests := true, laidLooks := .later }
def FnFmt0x64WholeUptoCardSaid : Prop := Claim7.holds Tryd.pinned (.plain (OpenSpec.upto fnFmt0x64WholeSpec)) fnFmt0x64WholeUptoCard
end Rows
end Go.Proofs.YtfiinkdobcoihaaDoor
