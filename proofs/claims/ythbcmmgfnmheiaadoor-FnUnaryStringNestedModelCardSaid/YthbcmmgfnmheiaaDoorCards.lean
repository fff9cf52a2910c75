/-
  DERIVED. GIVEN WITH THE SEED: THE CARDS: each row of YthbcmmgfnmheiaaDoorRows.lean that lists a variable, with what it lists TIED to the program's text (the seventh form; the later family's looks); each row that meets fmt, with fmt's text TOLD by the authors' own Lean function (tested against real Go, not proved from fmt's source: count such statements apart). THE CARD IS WHAT COUNTS. Prove the row's statement (the work); the ties are given (YthbcmmgfnmheiaaDoorTie.lean); close each card by the builder's one call (the guide's Derived/Test/ToyasCard.lean, 'card_holds'). Laid BY PROGRAM, IN A SANDBOX (cutbox-door.mjs). By AI agents, Wed Nov 11 2026. No macro, syntax, notation, axiom, sorry.
-/
import Derived.Test.YthbcmmgfnmheiaaDoorRows
import GoSem.ClaimSeven
namespace Go.Proofs.YthbcmmgfnmheiaaDoor
namespace Rows

/-- THE TIED CARD OF 'n002_50.FnUnaryStringNestedModel'. -/
def fnUnaryStringNestedModelCard : Claim7 := { stood := { row := fnUnaryStringNestedModelRow, standIns := [], harness := (true, "48cb3ef8240df98e1e13642aaaecdab717b1b371024e8290187f3fb8f0ab7c61"), looks := false }, kinds := [], alts := [], laidByText := true, laidKinds := [.data, .data, .data, .data], laidTests := true, laidLooks := .later }
def FnUnaryStringNestedModelCardSaid : Prop := Claim7.holds Tryd.pinned (.plain (OpenSpec.ofChange fnUnaryStringNestedModelSpec)) fnUnaryStringNestedModelCard

/-- THE SECOND FORM's CARD OF 'n002_50.FnUnaryStringNestedModel'. -/
def fnUnaryStringNestedModelUptoCard : Claim7 := { stood := { row := fnUnaryStringNestedModelUptoRow, standIns := [], harness := (true, "48cb3ef8240df98e1e13642aaaecdab717b1b371024e8290187f3fb8f0ab7c61"), looks := false }, kinds := [], alts := [], laidByText := true, laidKinds := [.data, .data, .data, .data], laidTests := true, laidLooks := .later }
def FnUnaryStringNestedModelUptoCardSaid : Prop := Claim7.holds Tryd.pinned (.plain (OpenSpec.upto fnUnaryStringNestedModelSpec)) fnUnaryStringNestedModelUptoCard
end Rows
end Go.Proofs.YthbcmmgfnmheiaaDoor
