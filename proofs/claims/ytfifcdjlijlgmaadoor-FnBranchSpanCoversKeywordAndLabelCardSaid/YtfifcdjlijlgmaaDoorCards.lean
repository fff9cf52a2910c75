/-
  DERIVED. GIVEN WITH THE SEED: THE CARDS: each row of YtfifcdjlijlgmaaDoorRows.lean that lists a variable, with what it lists TIED to the program's text (the seventh form; the later family's looks); each row that meets fmt, with fmt's text TOLD by the authors' own Lean function (tested against real Go, not proved from fmt's source: count such statements apart). THE CARD IS WHAT COUNTS. Prove the row's statement (the work); the ties are given (YtfifcdjlijlgmaaDoorTie.lean); close each card by the builder's one call (the guide's Derived/Test/ToyasCard.lean, 'card_holds'). Laid BY PROGRAM, IN A SANDBOX (cutbox-door.mjs). By AI agents, Wed Nov 11 2026. No macro, syntax, notation, axiom, sorry.
-/
import Derived.Test.YtfifcdjlijlgmaaDoorRows
import GoSem.ClaimSeven
namespace Go.Proofs.YtfifcdjlijlgmaaDoor
namespace Rows

/-- THE TIED CARD OF 'n002_10.FnBranchSpanCoversKeywordAndLabel'. -/
def fnBranchSpanCoversKeywordAndLabelCard : Claim7 := { stood := { row := fnBranchSpanCoversKeywordAndLabelRow, standIns := [], harness := (true, "89ccb7129c85c18b96107c78701643f6be51df66b2589306189b3b2c4ca6785f"), looks := false }, kinds := [], alts := [], laidByText := true, laidKinds := [.data, .data, .data, .data], laidTests := true, laidLooks := .later }
def FnBranchSpanCoversKeywordAndLabelCardSaid : Prop := Claim7.holds Tryd.pinned (.plain (OpenSpec.ofChange fnBranchSpanCoversKeywordAndLabelSpec)) fnBranchSpanCoversKeywordAndLabelCard

/-- THE SECOND FORM's CARD OF 'n002_10.FnBranchSpanCoversKeywordAndLabel'. -/
def fnBranchSpanCoversKeywordAndLabelUptoCard : Claim7 := { stood := { row := fnBranchSpanCoversKeywordAndLabelUptoRow, standIns := [], harness := (true, "89ccb7129c85c18b96107c78701643f6be51df66b2589306189b3b2c4ca6785f"), looks := false }, kinds := [], alts := [], laidByText := true, laidKinds := [.data, .data, .data, .data], laidTests := true, laidLooks := .later }
def FnBranchSpanCoversKeywordAndLabelUptoCardSaid : Prop := Claim7.holds Tryd.pinned (.plain (OpenSpec.upto fnBranchSpanCoversKeywordAndLabelSpec)) fnBranchSpanCoversKeywordAndLabelUptoCard
end Rows
end Go.Proofs.YtfifcdjlijlgmaaDoor
