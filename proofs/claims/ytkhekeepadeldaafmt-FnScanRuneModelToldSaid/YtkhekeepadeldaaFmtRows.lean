/-
  NARROWER THAN 'FOR EVERY INPUT', by the rows' own cells (each row's printed sentence says how): FnScanDigitsMonotoneInBase: laid · FnScanEscapeLocalAndShort: laid · FnScanRuneModel: laid.
  DERIVED. THE GIVEN ROWS OF THIS SEAT. 3 by the template 'for every input the law returns true; each argument reads behind the call as it read before'; 0 by the template 'total and deterministic' (their statements: YtkhekeepadeldaaFmtTotals.lean).
  GIVEN WITH THE SEED: the statements are not yours to turn. If you find one false, say at which input.
  Laid BY PROGRAM, IN A SANDBOX (cutbox-rows.mjs): the forced cells as the released guide's own fill.sh prints them over the translation aa832b72da10339b… (all of the seat's roots in one cut). By AI agents, Wed Nov 11 2026. No macro, syntax, notation, axiom, sorry.
-/
import Derived.Test.YtkhekeepadeldaaFmtChecked
import GoSem.PinnedTables
import GoSem.Claim
import GoSem.ClaimJoined
import GoSem.ClaimMapViews
import Derived.JoinedTies
import Derived.KernelRfl
namespace Go.Proofs.YtkhekeepadeldaaFmt
/- THE CELL 'sum', in the pinned program and in every row, IS THE sha256 OF THE DUMP (.gsa) THAT YtkhekeepadeldaaFmtProg.lean LOADS. Nothing in Lean hashes anything: it is a label: what it is worth is what the hold of that sum in a sandbox is worth. -/
noncomputable def Tryf.pinned : Pinned := { name := "ytkhekeepadeldaafmt", sum := "aa832b72da10339b2786523249e6438e6cfbb11f59040ecc1e3f1074b7aa0faf", checked := Tryf.checked }
namespace Rows
def none {H : Type} : Left H := { results := [], args := [] }

/- WHAT THE LISTED PACKAGE-LEVEL VARIABLES READ AS WHEN THE CALL BEGINS. Each datum BY PROGRAM (the guide's laid-datum.mjs) off the statement by which the dump's own 'gosem.cut.vars' lays the variable. In a bare row this is a premise. The card (YtkhekeepadeldaaFmtCards.lean) ties it to the program's text. -/
def laid_unicode_utf8_acceptRanges {H : Type} : DataW H := .agg [.agg [.lit (.int .u8 128), .lit (.int .u8 191)], .agg [.lit (.int .u8 160), .lit (.int .u8 191)], .agg [.lit (.int .u8 128), .lit (.int .u8 159)], .agg [.lit (.int .u8 144), .lit (.int .u8 191)], .agg [.lit (.int .u8 128), .lit (.int .u8 143)], .agg [.lit (.int .u8 0), .lit (.int .u8 0)], .agg [.lit (.int .u8 0), .lit (.int .u8 0)], .agg [.lit (.int .u8 0), .lit (.int .u8 0)], .agg [.lit (.int .u8 0), .lit (.int .u8 0)], .agg [.lit (.int .u8 0), .lit (.int .u8 0)], .agg [.lit (.int .u8 0), .lit (.int .u8 0)], .agg [.lit (.int .u8 0), .lit (.int .u8 0)], .agg [.lit (.int .u8 0), .lit (.int .u8 0)], .agg [.lit (.int .u8 0), .lit (.int .u8 0)], .agg [.lit (.int .u8 0), .lit (.int .u8 0)], .agg [.lit (.int .u8 0), .lit (.int .u8 0)]]
/-- One of Go's own tables, pinned by name: the form's constant. -/
def laid_unicode_utf8_first : DataW Unit := Go.Pinned.utf8First

/-- 'n002_74.FnScanDigitsMonotoneInBase': WHATEVER THE INPUT: true; the input reads as it did. -/
def fnScanDigitsMonotoneInBaseSpec : ChangeSpec := { name := "fnScanDigitsMonotoneInBase", fn := fun _ => fun
  | [d1, d2, d3] => { results := [.lit (.bool true)], args := [d1, d2, d3] }
  | _ => none }
def fnScanDigitsMonotoneInBaseRow : OpenClaim := { program := "ytkhekeepadeldaafmt", sum := "aa832b72da10339b2786523249e6438e6cfbb11f59040ecc1e3f1074b7aa0faf", func := "github.com/d5/tengo/v2/n002_74.FnScanDigitsMonotoneInBase", spec := "fnScanDigitsMonotoneInBase", stops := ["fmt.Sprintf"], inPlace := ["fmt.Sprintf"], unfollowed := true, recurses := true, named := ["unicode/utf8.first", "unicode/utf8.acceptRanges"], apart := false, laid := [("unicode/utf8.acceptRanges", laid_unicode_utf8_acceptRanges), ("unicode/utf8.first", laid_unicode_utf8_first)] }
/-- NO THEOREM (fmt's text is open here; it may be false): for the released tool's asking of the row's closed facts alone. THE STATEMENT IS 'FnScanDigitsMonotoneInBaseToldSaid' (YtkhekeepadeldaaFmtCards.lean). -/
def FnScanDigitsMonotoneInBaseFormAsk : Prop := fnScanDigitsMonotoneInBaseRow.holds Tryf.pinned (OpenSpec.ofChange fnScanDigitsMonotoneInBaseSpec)

/-- ITS FALSE NEIGHBOUR: 'it returns false'. Refute it at one input. -/
def fnScanDigitsMonotoneInBaseWrong : ChangeSpec := { name := "fnScanDigitsMonotoneInBase", fn := fun _ => fun
  | [d1, d2, d3] => { results := [.lit (.bool false)], args := [d1, d2, d3] }
  | _ => none }
def FnScanDigitsMonotoneInBaseWrongFormAsk : Prop := fnScanDigitsMonotoneInBaseRow.holds Tryf.pinned (OpenSpec.ofChange fnScanDigitsMonotoneInBaseWrong)

/-- 'n002_74.FnScanEscapeLocalAndShort': WHATEVER THE INPUT: true; the input reads as it did. -/
def fnScanEscapeLocalAndShortSpec : ChangeSpec := { name := "fnScanEscapeLocalAndShort", fn := fun _ => fun
  | [d1, d2] => { results := [.lit (.bool true)], args := [d1, d2] }
  | _ => none }
def fnScanEscapeLocalAndShortRow : OpenClaim := { program := "ytkhekeepadeldaafmt", sum := "aa832b72da10339b2786523249e6438e6cfbb11f59040ecc1e3f1074b7aa0faf", func := "github.com/d5/tengo/v2/n002_74.FnScanEscapeLocalAndShort", spec := "fnScanEscapeLocalAndShort", stops := ["fmt.Sprintf"], inPlace := ["fmt.Sprintf"], unfollowed := true, recurses := true, named := ["unicode/utf8.first", "unicode/utf8.acceptRanges"], apart := false, laid := [("unicode/utf8.acceptRanges", laid_unicode_utf8_acceptRanges), ("unicode/utf8.first", laid_unicode_utf8_first)] }
/-- NO THEOREM (fmt's text is open here; it may be false): for the released tool's asking of the row's closed facts alone. THE STATEMENT IS 'FnScanEscapeLocalAndShortToldSaid' (YtkhekeepadeldaaFmtCards.lean). -/
def FnScanEscapeLocalAndShortFormAsk : Prop := fnScanEscapeLocalAndShortRow.holds Tryf.pinned (OpenSpec.ofChange fnScanEscapeLocalAndShortSpec)

/-- ITS FALSE NEIGHBOUR: 'it returns false'. Refute it at one input. -/
def fnScanEscapeLocalAndShortWrong : ChangeSpec := { name := "fnScanEscapeLocalAndShort", fn := fun _ => fun
  | [d1, d2] => { results := [.lit (.bool false)], args := [d1, d2] }
  | _ => none }
def FnScanEscapeLocalAndShortWrongFormAsk : Prop := fnScanEscapeLocalAndShortRow.holds Tryf.pinned (OpenSpec.ofChange fnScanEscapeLocalAndShortWrong)

/-- 'n002_74.FnScanRuneModel': WHATEVER THE INPUT: true; the input reads as it did. -/
def fnScanRuneModelSpec : ChangeSpec := { name := "fnScanRuneModel", fn := fun _ => fun
  | [d] => { results := [.lit (.bool true)], args := [d] }
  | _ => none }
def fnScanRuneModelRow : OpenClaim := { program := "ytkhekeepadeldaafmt", sum := "aa832b72da10339b2786523249e6438e6cfbb11f59040ecc1e3f1074b7aa0faf", func := "github.com/d5/tengo/v2/n002_74.FnScanRuneModel", spec := "fnScanRuneModel", stops := ["fmt.Sprintf"], inPlace := ["fmt.Sprintf"], unfollowed := true, recurses := true, named := ["unicode/utf8.first", "unicode/utf8.acceptRanges"], apart := false, laid := [("unicode/utf8.acceptRanges", laid_unicode_utf8_acceptRanges), ("unicode/utf8.first", laid_unicode_utf8_first)] }
/-- NO THEOREM (fmt's text is open here; it may be false): for the released tool's asking of the row's closed facts alone. THE STATEMENT IS 'FnScanRuneModelToldSaid' (YtkhekeepadeldaaFmtCards.lean). -/
def FnScanRuneModelFormAsk : Prop := fnScanRuneModelRow.holds Tryf.pinned (OpenSpec.ofChange fnScanRuneModelSpec)

/-- ITS FALSE NEIGHBOUR: 'it returns false'. Refute it at one input. -/
def fnScanRuneModelWrong : ChangeSpec := { name := "fnScanRuneModel", fn := fun _ => fun
  | [d] => { results := [.lit (.bool false)], args := [d] }
  | _ => none }
def FnScanRuneModelWrongFormAsk : Prop := fnScanRuneModelRow.holds Tryf.pinned (OpenSpec.ofChange fnScanRuneModelWrong)

end Rows
end Go.Proofs.YtkhekeepadeldaaFmt
