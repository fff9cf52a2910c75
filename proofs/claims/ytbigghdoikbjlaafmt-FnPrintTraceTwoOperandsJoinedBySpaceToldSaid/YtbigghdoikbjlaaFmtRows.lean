/-
  No cell of these rows narrows 'for every input' (looked for: loops, veiled, ifaces, maps, wideKeys, modest, calm, conditions, laid).
  DERIVED. THE GIVEN ROWS OF THIS SEAT. 2 by the template 'for every input the law returns true; each argument reads behind the call as it read before'; 0 by the template 'total and deterministic' (their statements: YtbigghdoikbjlaaFmtTotals.lean).
  GIVEN WITH THE SEED: the statements are not yours to turn. If you find one false, say at which input.
  Laid BY PROGRAM, IN A SANDBOX (cutbox-rows.mjs): the forced cells as the released guide's own fill.sh prints them over the translation 35b8787d21d17d19… (all of the seat's roots in one cut). By AI agents, Wed Nov 11 2026. No macro, syntax, notation, axiom, sorry.
-/
import Derived.Test.YtbigghdoikbjlaaFmtChecked
import GoSem.Claim
import GoSem.ClaimJoined
import GoSem.ClaimMapViews
import Derived.JoinedTies
import Derived.KernelRfl
namespace Go.Proofs.YtbigghdoikbjlaaFmt
/- THE CELL 'sum', in the pinned program and in every row, IS THE sha256 OF THE DUMP (.gsa) THAT YtbigghdoikbjlaaFmtProg.lean LOADS. Nothing in Lean hashes anything: it is a label: what it is worth is what the hold of that sum in a sandbox is worth. -/
noncomputable def Tryf.pinned : Pinned := { name := "ytbigghdoikbjlaafmt", sum := "35b8787d21d17d196c8fc4f2bce22cdddb81d6b10710d8a32681636e340c932a", checked := Tryf.checked }
namespace Rows
def none {H : Type} : Left H := { results := [], args := [] }

/-- 'n002_78.FnPrintTraceLineIsDotsThenMessage': WHATEVER THE INPUT: true; the input reads as it did. -/
def fnPrintTraceLineIsDotsThenMessageSpec : ChangeSpec := { name := "fnPrintTraceLineIsDotsThenMessage", fn := fun _ => fun
  | [d1, d2] => { results := [.lit (.bool true)], args := [d1, d2] }
  | _ => none }
def fnPrintTraceLineIsDotsThenMessageRow : OpenClaim := { program := "ytbigghdoikbjlaafmt", sum := "35b8787d21d17d196c8fc4f2bce22cdddb81d6b10710d8a32681636e340c932a", func := "github.com/d5/tengo/v2/n002_78.FnPrintTraceLineIsDotsThenMessage", spec := "fnPrintTraceLineIsDotsThenMessage", stops := ["fmt.Sprint", "fmt.Sprintln, its operands' methods called"], inPlace := ["fmt.Fprint", "fmt.Sprint", "fmt.Fprintln", "fmt.Sprintln"], unfollowed := true, recurses := true, apart := false }
/-- NO THEOREM (fmt's text is open here; it may be false): for the released tool's asking of the row's closed facts alone. THE STATEMENT IS 'FnPrintTraceLineIsDotsThenMessageToldSaid' (YtbigghdoikbjlaaFmtCards.lean). -/
def FnPrintTraceLineIsDotsThenMessageFormAsk : Prop := fnPrintTraceLineIsDotsThenMessageRow.holds Tryf.pinned (OpenSpec.ofChange fnPrintTraceLineIsDotsThenMessageSpec)

/-- ITS FALSE NEIGHBOUR: 'it returns false'. Refute it at one input. -/
def fnPrintTraceLineIsDotsThenMessageWrong : ChangeSpec := { name := "fnPrintTraceLineIsDotsThenMessage", fn := fun _ => fun
  | [d1, d2] => { results := [.lit (.bool false)], args := [d1, d2] }
  | _ => none }
def FnPrintTraceLineIsDotsThenMessageWrongFormAsk : Prop := fnPrintTraceLineIsDotsThenMessageRow.holds Tryf.pinned (OpenSpec.ofChange fnPrintTraceLineIsDotsThenMessageWrong)

/-- 'n002_78.FnPrintTraceTwoOperandsJoinedBySpace': WHATEVER THE INPUT: true; the input reads as it did. -/
def fnPrintTraceTwoOperandsJoinedBySpaceSpec : ChangeSpec := { name := "fnPrintTraceTwoOperandsJoinedBySpace", fn := fun _ => fun
  | [d1, d2, d3] => { results := [.lit (.bool true)], args := [d1, d2, d3] }
  | _ => none }
def fnPrintTraceTwoOperandsJoinedBySpaceRow : OpenClaim := { program := "ytbigghdoikbjlaafmt", sum := "35b8787d21d17d196c8fc4f2bce22cdddb81d6b10710d8a32681636e340c932a", func := "github.com/d5/tengo/v2/n002_78.FnPrintTraceTwoOperandsJoinedBySpace", spec := "fnPrintTraceTwoOperandsJoinedBySpace", stops := ["fmt.Sprint", "fmt.Sprintln, its operands' methods called"], inPlace := ["fmt.Fprint", "fmt.Sprint", "fmt.Fprintln", "fmt.Sprintln"], unfollowed := true, recurses := true, apart := false }
/-- NO THEOREM (fmt's text is open here; it may be false): for the released tool's asking of the row's closed facts alone. THE STATEMENT IS 'FnPrintTraceTwoOperandsJoinedBySpaceToldSaid' (YtbigghdoikbjlaaFmtCards.lean). -/
def FnPrintTraceTwoOperandsJoinedBySpaceFormAsk : Prop := fnPrintTraceTwoOperandsJoinedBySpaceRow.holds Tryf.pinned (OpenSpec.ofChange fnPrintTraceTwoOperandsJoinedBySpaceSpec)

/-- ITS FALSE NEIGHBOUR: 'it returns false'. Refute it at one input. -/
def fnPrintTraceTwoOperandsJoinedBySpaceWrong : ChangeSpec := { name := "fnPrintTraceTwoOperandsJoinedBySpace", fn := fun _ => fun
  | [d1, d2, d3] => { results := [.lit (.bool false)], args := [d1, d2, d3] }
  | _ => none }
def FnPrintTraceTwoOperandsJoinedBySpaceWrongFormAsk : Prop := fnPrintTraceTwoOperandsJoinedBySpaceRow.holds Tryf.pinned (OpenSpec.ofChange fnPrintTraceTwoOperandsJoinedBySpaceWrong)

end Rows
end Go.Proofs.YtbigghdoikbjlaaFmt
