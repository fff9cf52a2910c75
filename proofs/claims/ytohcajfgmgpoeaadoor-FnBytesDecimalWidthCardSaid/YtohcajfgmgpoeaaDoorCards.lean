/-
  DERIVED. GIVEN WITH THE SEED: THE CARDS: each row of YtohcajfgmgpoeaaDoorRows.lean that lists a variable, with what it lists TIED to the program's text (the seventh form; the later family's looks); each row that meets fmt, with fmt's text TOLD by the authors' own Lean function (tested against real Go, not proved from fmt's source: count such statements apart). THE CARD IS WHAT COUNTS. Prove the row's statement (the work); the ties are given (YtohcajfgmgpoeaaDoorTie.lean); close each card by the builder's one call (the guide's Derived/Test/ToyasCard.lean, 'card_holds'). Laid BY PROGRAM, IN A SANDBOX (cutbox-door.mjs). By AI agents, Wed Nov 11 2026. No macro, syntax, notation, axiom, sorry.
-/
import Derived.Test.YtohcajfgmgpoeaaDoorRows
import GoSem.ClaimSeven
namespace Go.Proofs.YtohcajfgmgpoeaaDoor
namespace Rows

/-- THE TIED CARD OF 'n002_97.FnBytesDecimalList'. -/
def fnBytesDecimalListCard : Claim7 := { stood := { row := fnBytesDecimalListRow, standIns := [], harness := (true, "72169180a7436f6905685bc0a3219aee83e6c533c0f28692154638ce41e024cb"), looks := false }, kinds := [], alts := [], laidByText := true, laidKinds := [.data, .sentinel, .data, .pinned, .pinned, .pinned, .pinned, .pinned, .pinned], laidTests := true, laidLooks := .later }
def FnBytesDecimalListCardSaid : Prop := Claim7.holds Tryd.pinned (.plain (OpenSpec.ofChange fnBytesDecimalListSpec)) fnBytesDecimalListCard

/-- THE TIED CARD OF 'n002_97.FnBytesDecimalWidth'. -/
def fnBytesDecimalWidthCard : Claim7 := { stood := { row := fnBytesDecimalWidthRow, standIns := [], harness := (true, "72169180a7436f6905685bc0a3219aee83e6c533c0f28692154638ce41e024cb"), looks := false }, kinds := [], alts := [], laidByText := true, laidKinds := [.data, .sentinel, .data, .pinned, .pinned, .pinned, .pinned, .pinned, .pinned], laidTests := true, laidLooks := .later }
def FnBytesDecimalWidthCardSaid : Prop := Claim7.holds Tryd.pinned (.plain (OpenSpec.ofChange fnBytesDecimalWidthSpec)) fnBytesDecimalWidthCard

/-- THE SECOND FORM's CARD OF 'n002_97.FnBytesDecimalList'. -/
def fnBytesDecimalListUptoCard : Claim7 := { stood := { row := fnBytesDecimalListUptoRow, standIns := [], harness := (true, "72169180a7436f6905685bc0a3219aee83e6c533c0f28692154638ce41e024cb"), looks := false }, kinds := [], alts := [], laidByText := true, laidKinds := [.data, .sentinel, .data, .pinned, .pinned, .pinned, .pinned, .pinned, .pinned], laidTests := true, laidLooks := .later }
def FnBytesDecimalListUptoCardSaid : Prop := Claim7.holds Tryd.pinned (.plain (OpenSpec.upto fnBytesDecimalListSpec)) fnBytesDecimalListUptoCard

/-- THE SECOND FORM's CARD OF 'n002_97.FnBytesDecimalWidth'. -/
def fnBytesDecimalWidthUptoCard : Claim7 := { stood := { row := fnBytesDecimalWidthUptoRow, standIns := [], harness := (true, "72169180a7436f6905685bc0a3219aee83e6c533c0f28692154638ce41e024cb"), looks := false }, kinds := [], alts := [], laidByText := true, laidKinds := [.data, .sentinel, .data, .pinned, .pinned, .pinned, .pinned, .pinned, .pinned], laidTests := true, laidLooks := .later }
def FnBytesDecimalWidthUptoCardSaid : Prop := Claim7.holds Tryd.pinned (.plain (OpenSpec.upto fnBytesDecimalWidthSpec)) fnBytesDecimalWidthUptoCard
end Rows
end Go.Proofs.YtohcajfgmgpoeaaDoor
