/-
  DERIVED. GIVEN WITH THE SEED: THE CARDS: each row of YtbigghdoikbjlaaFmtRows.lean that lists a variable, with what it lists TIED to the program's text (the seventh form; the later family's looks); each row that meets fmt, with fmt's text TOLD by the authors' own Lean function (tested against real Go, not proved from fmt's source: count such statements apart). THE CARD IS WHAT COUNTS. Prove the row's statement (the work); the ties are given (YtbigghdoikbjlaaFmtTie.lean); close each card by the builder's one call (the guide's Derived/Test/ToyasCard.lean, 'card_holds'). Laid BY PROGRAM, IN A SANDBOX (cutbox-door.mjs). By AI agents, Wed Nov 11 2026. No macro, syntax, notation, axiom, sorry.
-/
import Derived.Test.YtbigghdoikbjlaaFmtRows
import GoSem.ClaimSeven
namespace Go.Proofs.YtbigghdoikbjlaaFmt
namespace Rows

/-- THE TOLD CARD OF 'n002_78.FnPrintTraceLineIsDotsThenMessage'. -/
def fnPrintTraceLineIsDotsThenMessageCard : Claim7 := { stood := { row := fnPrintTraceLineIsDotsThenMessageRow, standIns := [], harness := (true, "894fb3e72b51fea9655e55660a198e7c9cd41cebd07168963fb152fb96732d19"), looks := false }, told := true, goes := false }
def FnPrintTraceLineIsDotsThenMessageToldSaid : Prop := Claim7.holds Tryf.pinned (.plain (OpenSpec.ofChange fnPrintTraceLineIsDotsThenMessageSpec)) fnPrintTraceLineIsDotsThenMessageCard
/-- ITS FALSE NEIGHBOUR. Refute it at one input. -/
def FnPrintTraceLineIsDotsThenMessageToldWrongFalsely : Prop := Claim7.holds Tryf.pinned (.plain (OpenSpec.ofChange fnPrintTraceLineIsDotsThenMessageWrong)) fnPrintTraceLineIsDotsThenMessageCard

/-- THE TOLD CARD OF 'n002_78.FnPrintTraceTwoOperandsJoinedBySpace'. -/
def fnPrintTraceTwoOperandsJoinedBySpaceCard : Claim7 := { stood := { row := fnPrintTraceTwoOperandsJoinedBySpaceRow, standIns := [], harness := (true, "894fb3e72b51fea9655e55660a198e7c9cd41cebd07168963fb152fb96732d19"), looks := false }, told := true, goes := false }
def FnPrintTraceTwoOperandsJoinedBySpaceToldSaid : Prop := Claim7.holds Tryf.pinned (.plain (OpenSpec.ofChange fnPrintTraceTwoOperandsJoinedBySpaceSpec)) fnPrintTraceTwoOperandsJoinedBySpaceCard
/-- ITS FALSE NEIGHBOUR. Refute it at one input. -/
def FnPrintTraceTwoOperandsJoinedBySpaceToldWrongFalsely : Prop := Claim7.holds Tryf.pinned (.plain (OpenSpec.ofChange fnPrintTraceTwoOperandsJoinedBySpaceWrong)) fnPrintTraceTwoOperandsJoinedBySpaceCard
end Rows
end Go.Proofs.YtbigghdoikbjlaaFmt
