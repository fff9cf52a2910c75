/-
  NARROWER THAN 'FOR EVERY INPUT', by the rows' own cells (each row's printed sentence says how): FnFmt0x64RoundTrip: ifaces, laid · FnFmt0x64Whole: ifaces, laid.
  DERIVED. THE GIVEN ROWS OF THIS SEAT. 2 by the template 'for every input the law returns true; each argument reads behind the call as it read before'; 0 by the template 'total and deterministic' (their statements: YtfiinkdobcoihaaDoorTotals.lean).
  GIVEN WITH THE SEED: the statements are not yours to turn. If you find one false, say at which input.
  Laid BY PROGRAM, IN A SANDBOX (cutbox-rows.mjs): the forced cells as the released guide's own fill.sh prints them over the translation 6d6dc05643f0db33… (all of the seat's roots in one cut). By AI agents, Wed Nov 11 2026. No macro, syntax, notation, axiom, sorry.
-/
import Derived.Test.YtfiinkdobcoihaaDoorChecked
import GoSem.Claim
import GoSem.ClaimJoined
import GoSem.ClaimMapViews
import Derived.JoinedTies
import Derived.KernelRfl
namespace Go.Proofs.YtfiinkdobcoihaaDoor
/- THE CELL 'sum', in the pinned program and in every row, IS THE sha256 OF THE DUMP (.gsa) THAT YtfiinkdobcoihaaDoorProg.lean LOADS. Nothing in Lean hashes anything: it is a label: what it is worth is what the hold of that sum in a sandbox is worth. -/
noncomputable def Tryd.pinned : Pinned := { name := "ytfiinkdobcoihaadoor", sum := "6d6dc05643f0db33ae2d6f80ca322db587d52189a8e5ad60a8193cf7b39be27f", checked := Tryd.checked }
namespace Rows
def none {H : Type} : Left H := { results := [], args := [] }

/- WHAT THE LISTED PACKAGE-LEVEL VARIABLES READ AS WHEN THE CALL BEGINS. Each datum BY PROGRAM (the guide's laid-datum.mjs) off the statement by which the dump's own 'gosem.cut.vars' lays the variable. In a bare row this is a premise. The card (YtfiinkdobcoihaaDoorCards.lean) ties it to the program's text. -/
def laid_github_com_d5_tengo_v2_ErrStringLimit {H : Type} : DataW H := .iface "*errors.errorString" (.ptr (.agg [.lit (.string [101, 120, 99, 101, 101, 100, 105, 110, 103, 32, 115, 116, 114, 105, 110, 103, 32, 115, 105, 122, 101, 32, 108, 105, 109, 105, 116])]))
def laid_github_com_d5_tengo_v2_MaxStringLen {H : Type} : DataW H := .lit (.int .i64 2147483647)

/-- 'n002_91.FnFmt0x64RoundTrip': WHATEVER THE INPUT: true; the input reads as it did. -/
def fnFmt0x64RoundTripSpec : ChangeSpec := { name := "fnFmt0x64RoundTrip", vars := ["github.com/d5/tengo/v2.MaxStringLen", "github.com/d5/tengo/v2.ErrStringLimit"], fn := fun _ => fun
  | [d1, d2, g1, g2] => { results := [.lit (.bool true)], args := [d1, d2], vars := [g1, g2] }
  | _ => none }
def fnFmt0x64RoundTripRow : OpenClaim := { program := "ytfiinkdobcoihaadoor", sum := "6d6dc05643f0db33ae2d6f80ca322db587d52189a8e5ad60a8193cf7b39be27f", func := "github.com/d5/tengo/v2/n002_91.FnFmt0x64RoundTrip", spec := "fnFmt0x64RoundTrip", named := ["github.com/d5/tengo/v2.MaxStringLen", "github.com/d5/tengo/v2.ErrStringLimit"], ifaces := true, apart := false, laid := [("github.com/d5/tengo/v2.ErrStringLimit", laid_github_com_d5_tengo_v2_ErrStringLimit), ("github.com/d5/tengo/v2.MaxStringLen", laid_github_com_d5_tengo_v2_MaxStringLen)] }
def FnFmt0x64RoundTripSaid : Prop := fnFmt0x64RoundTripRow.holds Tryd.pinned (OpenSpec.ofChange fnFmt0x64RoundTripSpec)

/-- ITS FALSE NEIGHBOUR: 'it returns false'. Refute it at one input. -/
def fnFmt0x64RoundTripWrong : ChangeSpec := { name := "fnFmt0x64RoundTrip", vars := ["github.com/d5/tengo/v2.MaxStringLen", "github.com/d5/tengo/v2.ErrStringLimit"], fn := fun _ => fun
  | [d1, d2, g1, g2] => { results := [.lit (.bool false)], args := [d1, d2], vars := [g1, g2] }
  | _ => none }
def FnFmt0x64RoundTripWrongFalsely : Prop := fnFmt0x64RoundTripRow.holds Tryd.pinned (OpenSpec.ofChange fnFmt0x64RoundTripWrong)

/-- 'n002_91.FnFmt0x64Whole': WHATEVER THE INPUT: true; the input reads as it did. -/
def fnFmt0x64WholeSpec : ChangeSpec := { name := "fnFmt0x64Whole", vars := ["github.com/d5/tengo/v2.MaxStringLen", "github.com/d5/tengo/v2.ErrStringLimit"], fn := fun _ => fun
  | [d1, d2, d3, d4, d5, d6, d7, g1, g2] => { results := [.lit (.bool true)], args := [d1, d2, d3, d4, d5, d6, d7], vars := [g1, g2] }
  | _ => none }
def fnFmt0x64WholeRow : OpenClaim := { program := "ytfiinkdobcoihaadoor", sum := "6d6dc05643f0db33ae2d6f80ca322db587d52189a8e5ad60a8193cf7b39be27f", func := "github.com/d5/tengo/v2/n002_91.FnFmt0x64Whole", spec := "fnFmt0x64Whole", named := ["github.com/d5/tengo/v2.MaxStringLen", "github.com/d5/tengo/v2.ErrStringLimit"], ifaces := true, apart := false, laid := [("github.com/d5/tengo/v2.ErrStringLimit", laid_github_com_d5_tengo_v2_ErrStringLimit), ("github.com/d5/tengo/v2.MaxStringLen", laid_github_com_d5_tengo_v2_MaxStringLen)] }
def FnFmt0x64WholeSaid : Prop := fnFmt0x64WholeRow.holds Tryd.pinned (OpenSpec.ofChange fnFmt0x64WholeSpec)

/-- ITS FALSE NEIGHBOUR: 'it returns false'. Refute it at one input. -/
def fnFmt0x64WholeWrong : ChangeSpec := { name := "fnFmt0x64Whole", vars := ["github.com/d5/tengo/v2.MaxStringLen", "github.com/d5/tengo/v2.ErrStringLimit"], fn := fun _ => fun
  | [d1, d2, d3, d4, d5, d6, d7, g1, g2] => { results := [.lit (.bool false)], args := [d1, d2, d3, d4, d5, d6, d7], vars := [g1, g2] }
  | _ => none }
def FnFmt0x64WholeWrongFalsely : Prop := fnFmt0x64WholeRow.holds Tryd.pinned (OpenSpec.ofChange fnFmt0x64WholeWrong)

/- THE SECOND FORM. 'bulk': how many values and letters a reading holds, each counted each time it is reached (what is shared counts as often as it is met; a slice's spare places count too). A statement '..UptoSaid' is the law's where the arguments, and the package variables that the reading takes, are together of bulk at most 1048576: NARROWER than '..Said'. Prove '..Said' where nothing that the law and all that it calls make is longer than what came in: it says more and counts as full. Else prove '..UptoSaid'. A law counts once. -/
mutual
def uptoBulk {H : Type} : DataW H → Nat
  | .lit (.string bytes) => bytes.length + 1
  | .lit _ => 1
  | .nil => 1
  | .ptr d => uptoBulk d + 1
  | .slice elems spare => uptoBulkAll elems + uptoBulkAll spare + 1
  | .agg parts => uptoBulkAll parts + 1
  | .iface _ d => uptoBulk d + 1
  | .map entries => uptoBulkEntries entries + 1
  | .held _ => 1
def uptoBulkAll {H : Type} : List (DataW H) → Nat
  | [] => 0
  | d :: r => uptoBulk d + uptoBulkAll r
def uptoBulkEntries {H : Type} : List (Lit × DataW H) → Nat
  | [] => 0
  | x :: r => uptoBulkEntry x + uptoBulkEntries r
def uptoBulkEntry {H : Type} : Lit × DataW H → Nat
  | (.string bytes, d) => bytes.length + uptoBulk d + 1
  | (_, d) => uptoBulk d + 1
 end
def uptoSmall : (H : Type) → List (DataW H) → Bool := fun _ ds => decide (uptoBulkAll ds ≤ 1048576)
def OpenSpec.upto (s : _root_.Go.ChangeSpec) : _root_.Go.OpenSpec := { _root_.Go.OpenSpec.ofChange s with cond := some uptoSmall }

/-- 'n002_91.FnFmt0x64RoundTrip', WHERE WHAT IT READS IS OF BULK AT MOST 1048576: true; the input reads as it did. -/
def fnFmt0x64RoundTripUptoRow : OpenClaim := { program := "ytfiinkdobcoihaadoor", sum := "6d6dc05643f0db33ae2d6f80ca322db587d52189a8e5ad60a8193cf7b39be27f", func := "github.com/d5/tengo/v2/n002_91.FnFmt0x64RoundTrip", spec := "fnFmt0x64RoundTrip", named := ["github.com/d5/tengo/v2.MaxStringLen", "github.com/d5/tengo/v2.ErrStringLimit"], ifaces := true, apart := false, laid := [("github.com/d5/tengo/v2.ErrStringLimit", laid_github_com_d5_tengo_v2_ErrStringLimit), ("github.com/d5/tengo/v2.MaxStringLen", laid_github_com_d5_tengo_v2_MaxStringLen)], narrowed := true }
def FnFmt0x64RoundTripUptoSaid : Prop := fnFmt0x64RoundTripUptoRow.holds Tryd.pinned (OpenSpec.upto fnFmt0x64RoundTripSpec)

/-- 'n002_91.FnFmt0x64Whole', WHERE WHAT IT READS IS OF BULK AT MOST 1048576: true; the input reads as it did. -/
def fnFmt0x64WholeUptoRow : OpenClaim := { program := "ytfiinkdobcoihaadoor", sum := "6d6dc05643f0db33ae2d6f80ca322db587d52189a8e5ad60a8193cf7b39be27f", func := "github.com/d5/tengo/v2/n002_91.FnFmt0x64Whole", spec := "fnFmt0x64Whole", named := ["github.com/d5/tengo/v2.MaxStringLen", "github.com/d5/tengo/v2.ErrStringLimit"], ifaces := true, apart := false, laid := [("github.com/d5/tengo/v2.ErrStringLimit", laid_github_com_d5_tengo_v2_ErrStringLimit), ("github.com/d5/tengo/v2.MaxStringLen", laid_github_com_d5_tengo_v2_MaxStringLen)], narrowed := true }
def FnFmt0x64WholeUptoSaid : Prop := fnFmt0x64WholeUptoRow.holds Tryd.pinned (OpenSpec.upto fnFmt0x64WholeSpec)

end Rows
end Go.Proofs.YtfiinkdobcoihaaDoor
