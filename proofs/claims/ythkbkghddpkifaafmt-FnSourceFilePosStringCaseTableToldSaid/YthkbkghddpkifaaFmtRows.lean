/-
  No cell of these rows narrows 'for every input' (looked for: loops, veiled, ifaces, maps, wideKeys, modest, calm, conditions, laid).
  DERIVED. THE GIVEN ROWS OF THIS SEAT. 1 by the template 'for every input the law returns true; each argument reads behind the call as it read before'; 0 by the template 'total and deterministic' (their statements: YthkbkghddpkifaaFmtTotals.lean).
  GIVEN WITH THE SEED: the statements are not yours to turn. If you find one false, say at which input.
  Laid BY PROGRAM, IN A SANDBOX (cutbox-rows.mjs): the forced cells as the released guide's own fill.sh prints them over the translation 606fb39886ebfc9d… (all of the seat's roots in one cut). By AI agents, Wed Nov 11 2026. No macro, syntax, notation, axiom, sorry.
-/
import Derived.Test.YthkbkghddpkifaaFmtChecked
import GoSem.Claim
import GoSem.ClaimJoined
import GoSem.ClaimMapViews
import Derived.JoinedTies
import Derived.KernelRfl
namespace Go.Proofs.YthkbkghddpkifaaFmt
/- THE CELL 'sum', in the pinned program and in every row, IS THE sha256 OF THE DUMP (.gsa) THAT YthkbkghddpkifaaFmtProg.lean LOADS. Nothing in Lean hashes anything: it is a label: what it is worth is what the hold of that sum in a sandbox is worth. -/
noncomputable def Tryf.pinned : Pinned := { name := "ythkbkghddpkifaafmt", sum := "606fb39886ebfc9d516b2e6380ae85d956deff2376b87ad7beefe75861e29d4c", checked := Tryf.checked }
namespace Rows
def none {H : Type} : Left H := { results := [], args := [] }

/-- 'n002_87.FnSourceFilePosStringCaseTable': WHATEVER THE INPUT: true; the input reads as it did. -/
def fnSourceFilePosStringCaseTableSpec : ChangeSpec := { name := "fnSourceFilePosStringCaseTable", fn := fun _ => fun
  | [d1, d2, d3, d4] => { results := [.lit (.bool true)], args := [d1, d2, d3, d4] }
  | _ => none }
def fnSourceFilePosStringCaseTableRow : OpenClaim := { program := "ythkbkghddpkifaafmt", sum := "606fb39886ebfc9d516b2e6380ae85d956deff2376b87ad7beefe75861e29d4c", func := "github.com/d5/tengo/v2/n002_87.FnSourceFilePosStringCaseTable", spec := "fnSourceFilePosStringCaseTable", stops := ["fmt.Sprintf"], inPlace := ["fmt.Sprintf"], apart := false }
/-- NO THEOREM (fmt's text is open here; it may be false): for the released tool's asking of the row's closed facts alone. THE STATEMENT IS 'FnSourceFilePosStringCaseTableToldSaid' (YthkbkghddpkifaaFmtCards.lean). -/
def FnSourceFilePosStringCaseTableFormAsk : Prop := fnSourceFilePosStringCaseTableRow.holds Tryf.pinned (OpenSpec.ofChange fnSourceFilePosStringCaseTableSpec)

/-- ITS FALSE NEIGHBOUR: 'it returns false'. Refute it at one input. -/
def fnSourceFilePosStringCaseTableWrong : ChangeSpec := { name := "fnSourceFilePosStringCaseTable", fn := fun _ => fun
  | [d1, d2, d3, d4] => { results := [.lit (.bool false)], args := [d1, d2, d3, d4] }
  | _ => none }
def FnSourceFilePosStringCaseTableWrongFormAsk : Prop := fnSourceFilePosStringCaseTableRow.holds Tryf.pinned (OpenSpec.ofChange fnSourceFilePosStringCaseTableWrong)

end Rows
end Go.Proofs.YthkbkghddpkifaaFmt
