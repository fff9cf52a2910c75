/-
  NARROWER THAN 'FOR EVERY INPUT', by the rows' own cells (each row's printed sentence says how): FnSwitch2Exact: laid · FnSwitch3Exact: laid · FnSwitch4Exact: laid.
  DERIVED. THE GIVEN ROWS OF THIS SEAT. 3 by the template 'for every input the law returns true; each argument reads behind the call as it read before'; 0 by the template 'total and deterministic' (their statements: YtnddjmbgcaoccaaFmtTotals.lean).
  GIVEN WITH THE SEED: the statements are not yours to turn. If you find one false, say at which input.
  Laid BY PROGRAM, IN A SANDBOX (cutbox-rows.mjs): the forced cells as the released guide's own fill.sh prints them over the translation d166d6acb6c87e80… (all of the seat's roots in one cut). By AI agents, Wed Nov 11 2026. No macro, syntax, notation, axiom, sorry.
-/
import Derived.Test.YtnddjmbgcaoccaaFmtChecked
import GoSem.PinnedTables
import GoSem.Claim
import GoSem.ClaimJoined
import GoSem.ClaimMapViews
import Derived.JoinedTies
import Derived.KernelRfl
namespace Go.Proofs.YtnddjmbgcaoccaaFmt
/- THE CELL 'sum', in the pinned program and in every row, IS THE sha256 OF THE DUMP (.gsa) THAT YtnddjmbgcaoccaaFmtProg.lean LOADS. Nothing in Lean hashes anything: it is a label: what it is worth is what the hold of that sum in a sandbox is worth. -/
noncomputable def Tryf.pinned : Pinned := { name := "ytnddjmbgcaoccaafmt", sum := "d166d6acb6c87e809c87a2ae4d77df090a6ff38edbd73c676371356733678871", checked := Tryf.checked }
namespace Rows
def none {H : Type} : Left H := { results := [], args := [] }

/- WHAT THE LISTED PACKAGE-LEVEL VARIABLES READ AS WHEN THE CALL BEGINS. Each datum BY PROGRAM (the guide's laid-datum.mjs) off the statement by which the dump's own 'gosem.cut.vars' lays the variable. In a bare row this is a premise. The card (YtnddjmbgcaoccaaFmtCards.lean) ties it to the program's text. -/
def laid_unicode_utf8_acceptRanges {H : Type} : DataW H := .agg [.agg [.lit (.int .u8 128), .lit (.int .u8 191)], .agg [.lit (.int .u8 160), .lit (.int .u8 191)], .agg [.lit (.int .u8 128), .lit (.int .u8 159)], .agg [.lit (.int .u8 144), .lit (.int .u8 191)], .agg [.lit (.int .u8 128), .lit (.int .u8 143)], .agg [.lit (.int .u8 0), .lit (.int .u8 0)], .agg [.lit (.int .u8 0), .lit (.int .u8 0)], .agg [.lit (.int .u8 0), .lit (.int .u8 0)], .agg [.lit (.int .u8 0), .lit (.int .u8 0)], .agg [.lit (.int .u8 0), .lit (.int .u8 0)], .agg [.lit (.int .u8 0), .lit (.int .u8 0)], .agg [.lit (.int .u8 0), .lit (.int .u8 0)], .agg [.lit (.int .u8 0), .lit (.int .u8 0)], .agg [.lit (.int .u8 0), .lit (.int .u8 0)], .agg [.lit (.int .u8 0), .lit (.int .u8 0)], .agg [.lit (.int .u8 0), .lit (.int .u8 0)]]
/-- One of Go's own tables, pinned by name: the form's constant. -/
def laid_unicode_utf8_first : DataW Unit := Go.Pinned.utf8First

/-- 'n002_88.FnSwitch2Exact': WHATEVER THE INPUT: true; the input reads as it did. -/
def fnSwitch2ExactSpec : ChangeSpec := { name := "fnSwitch2Exact", fn := fun _ => fun
  | [d1, d2, d3, d4] => { results := [.lit (.bool true)], args := [d1, d2, d3, d4] }
  | _ => none }
def fnSwitch2ExactRow : OpenClaim := { program := "ytnddjmbgcaoccaafmt", sum := "d166d6acb6c87e809c87a2ae4d77df090a6ff38edbd73c676371356733678871", func := "github.com/d5/tengo/v2/n002_88.FnSwitch2Exact", spec := "fnSwitch2Exact", stops := ["fmt.Sprintf"], inPlace := ["fmt.Sprintf"], unfollowed := true, recurses := true, named := ["unicode/utf8.first", "unicode/utf8.acceptRanges"], apart := false, laid := [("unicode/utf8.acceptRanges", laid_unicode_utf8_acceptRanges), ("unicode/utf8.first", laid_unicode_utf8_first)] }
/-- NO THEOREM (fmt's text is open here; it may be false): for the released tool's asking of the row's closed facts alone. THE STATEMENT IS 'FnSwitch2ExactToldSaid' (YtnddjmbgcaoccaaFmtCards.lean). -/
def FnSwitch2ExactFormAsk : Prop := fnSwitch2ExactRow.holds Tryf.pinned (OpenSpec.ofChange fnSwitch2ExactSpec)

/-- ITS FALSE NEIGHBOUR: 'it returns false'. Refute it at one input. -/
def fnSwitch2ExactWrong : ChangeSpec := { name := "fnSwitch2Exact", fn := fun _ => fun
  | [d1, d2, d3, d4] => { results := [.lit (.bool false)], args := [d1, d2, d3, d4] }
  | _ => none }
def FnSwitch2ExactWrongFormAsk : Prop := fnSwitch2ExactRow.holds Tryf.pinned (OpenSpec.ofChange fnSwitch2ExactWrong)

/-- 'n002_88.FnSwitch3Exact': WHATEVER THE INPUT: true; the input reads as it did. -/
def fnSwitch3ExactSpec : ChangeSpec := { name := "fnSwitch3Exact", fn := fun _ => fun
  | [d1, d2, d3, d4, d5, d6] => { results := [.lit (.bool true)], args := [d1, d2, d3, d4, d5, d6] }
  | _ => none }
def fnSwitch3ExactRow : OpenClaim := { program := "ytnddjmbgcaoccaafmt", sum := "d166d6acb6c87e809c87a2ae4d77df090a6ff38edbd73c676371356733678871", func := "github.com/d5/tengo/v2/n002_88.FnSwitch3Exact", spec := "fnSwitch3Exact", stops := ["fmt.Sprintf"], inPlace := ["fmt.Sprintf"], unfollowed := true, recurses := true, named := ["unicode/utf8.first", "unicode/utf8.acceptRanges"], apart := false, laid := [("unicode/utf8.acceptRanges", laid_unicode_utf8_acceptRanges), ("unicode/utf8.first", laid_unicode_utf8_first)] }
/-- NO THEOREM (fmt's text is open here; it may be false): for the released tool's asking of the row's closed facts alone. THE STATEMENT IS 'FnSwitch3ExactToldSaid' (YtnddjmbgcaoccaaFmtCards.lean). -/
def FnSwitch3ExactFormAsk : Prop := fnSwitch3ExactRow.holds Tryf.pinned (OpenSpec.ofChange fnSwitch3ExactSpec)

/-- ITS FALSE NEIGHBOUR: 'it returns false'. Refute it at one input. -/
def fnSwitch3ExactWrong : ChangeSpec := { name := "fnSwitch3Exact", fn := fun _ => fun
  | [d1, d2, d3, d4, d5, d6] => { results := [.lit (.bool false)], args := [d1, d2, d3, d4, d5, d6] }
  | _ => none }
def FnSwitch3ExactWrongFormAsk : Prop := fnSwitch3ExactRow.holds Tryf.pinned (OpenSpec.ofChange fnSwitch3ExactWrong)

/-- 'n002_88.FnSwitch4Exact': WHATEVER THE INPUT: true; the input reads as it did. -/
def fnSwitch4ExactSpec : ChangeSpec := { name := "fnSwitch4Exact", fn := fun _ => fun
  | [d1, d2, d3, d4, d5, d6, d7] => { results := [.lit (.bool true)], args := [d1, d2, d3, d4, d5, d6, d7] }
  | _ => none }
def fnSwitch4ExactRow : OpenClaim := { program := "ytnddjmbgcaoccaafmt", sum := "d166d6acb6c87e809c87a2ae4d77df090a6ff38edbd73c676371356733678871", func := "github.com/d5/tengo/v2/n002_88.FnSwitch4Exact", spec := "fnSwitch4Exact", stops := ["fmt.Sprintf"], inPlace := ["fmt.Sprintf"], unfollowed := true, recurses := true, named := ["unicode/utf8.first", "unicode/utf8.acceptRanges"], apart := false, laid := [("unicode/utf8.acceptRanges", laid_unicode_utf8_acceptRanges), ("unicode/utf8.first", laid_unicode_utf8_first)] }
/-- NO THEOREM (fmt's text is open here; it may be false): for the released tool's asking of the row's closed facts alone. THE STATEMENT IS 'FnSwitch4ExactToldSaid' (YtnddjmbgcaoccaaFmtCards.lean). -/
def FnSwitch4ExactFormAsk : Prop := fnSwitch4ExactRow.holds Tryf.pinned (OpenSpec.ofChange fnSwitch4ExactSpec)

/-- ITS FALSE NEIGHBOUR: 'it returns false'. Refute it at one input. -/
def fnSwitch4ExactWrong : ChangeSpec := { name := "fnSwitch4Exact", fn := fun _ => fun
  | [d1, d2, d3, d4, d5, d6, d7] => { results := [.lit (.bool false)], args := [d1, d2, d3, d4, d5, d6, d7] }
  | _ => none }
def FnSwitch4ExactWrongFormAsk : Prop := fnSwitch4ExactRow.holds Tryf.pinned (OpenSpec.ofChange fnSwitch4ExactWrong)

end Rows
end Go.Proofs.YtnddjmbgcaoccaaFmt
