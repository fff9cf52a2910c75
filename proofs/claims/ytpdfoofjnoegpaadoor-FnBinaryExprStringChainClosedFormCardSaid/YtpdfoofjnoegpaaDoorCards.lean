/-
  DERIVED. GIVEN WITH THE SEED: THE CARDS: each row of YtpdfoofjnoegpaaDoorRows.lean that lists a variable, with what it lists TIED to the program's text (the seventh form; the later family's looks); each row that meets fmt, with fmt's text TOLD by the authors' own Lean function (tested against real Go, not proved from fmt's source: count such statements apart). THE CARD IS WHAT COUNTS. Prove the row's statement (the work); the ties are given (YtpdfoofjnoegpaaDoorTie.lean); close each card by the builder's one call (the guide's Derived/Test/ToyasCard.lean, 'card_holds'). Laid BY PROGRAM, IN A SANDBOX (cutbox-door.mjs). By AI agents, Wed Nov 11 2026. No macro, syntax, notation, axiom, sorry.
-/
import Derived.Test.YtpdfoofjnoegpaaDoorRows
import GoSem.ClaimSeven
namespace Go.Proofs.YtpdfoofjnoegpaaDoor
namespace Rows

/-- THE TIED CARD OF 'n002_79.FnBinaryExprStringChainClosedForm'. -/
def fnBinaryExprStringChainClosedFormCard : Claim7 := { stood := { row := fnBinaryExprStringChainClosedFormRow, standIns := [], harness := (true, "338dead46ac04f789a28191d3b920c108b188d743106612773fe93384cbbb1f1"), looks := false }, kinds := [], alts := [], laidByText := true, laidKinds := [.data, .data, .data, .data], laidTests := true, laidLooks := .later }
def FnBinaryExprStringChainClosedFormCardSaid : Prop := Claim7.holds Tryd.pinned (.plain (OpenSpec.ofChange fnBinaryExprStringChainClosedFormSpec)) fnBinaryExprStringChainClosedFormCard

/-- THE SECOND FORM's CARD OF 'n002_79.FnBinaryExprStringChainClosedForm'. -/
def fnBinaryExprStringChainClosedFormUptoCard : Claim7 := { stood := { row := fnBinaryExprStringChainClosedFormUptoRow, standIns := [], harness := (true, "338dead46ac04f789a28191d3b920c108b188d743106612773fe93384cbbb1f1"), looks := false }, kinds := [], alts := [], laidByText := true, laidKinds := [.data, .data, .data, .data], laidTests := true, laidLooks := .later }
def FnBinaryExprStringChainClosedFormUptoCardSaid : Prop := Claim7.holds Tryd.pinned (.plain (OpenSpec.upto fnBinaryExprStringChainClosedFormSpec)) fnBinaryExprStringChainClosedFormUptoCard
end Rows
end Go.Proofs.YtpdfoofjnoegpaaDoor
