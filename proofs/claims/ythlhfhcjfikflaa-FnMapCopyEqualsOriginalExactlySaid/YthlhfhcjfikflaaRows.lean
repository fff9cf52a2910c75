/-
  No cell of these rows narrows 'for every input' (looked for: loops, veiled, ifaces, maps, wideKeys, modest, calm, conditions, laid).
  DERIVED. THE GIVEN ROWS OF THIS SEAT. 3 by the template 'for every input the law returns true; each argument reads behind the call as it read before'; 0 by the template 'total and deterministic' (their statements: YthlhfhcjfikflaaTotals.lean).
  GIVEN WITH THE SEED: the statements are not yours to turn. If you find one false, say at which input.
  Laid BY PROGRAM, IN A SANDBOX (cutbox-rows.mjs): the forced cells as the released guide's own fill.sh prints them over the translation 3d28a25b04ca9ebd… (all of the seat's roots in one cut). By AI agents, Wed Nov 11 2026. No macro, syntax, notation, axiom, sorry.
-/
import Derived.Test.YthlhfhcjfikflaaChecked
import GoSem.Claim
import GoSem.ClaimJoined
import GoSem.ClaimMapViews
import Derived.JoinedTies
import Derived.KernelRfl
namespace Go.Proofs.Ythlhfhcjfikflaa
/- THE CELL 'sum', in the pinned program and in every row, IS THE sha256 OF THE DUMP (.gsa) THAT YthlhfhcjfikflaaProg.lean LOADS. Nothing in Lean hashes anything: it is a label: what it is worth is what the hold of that sum in a sandbox is worth. -/
noncomputable def Try.pinned : Pinned := { name := "ythlhfhcjfikflaa", sum := "3d28a25b04ca9ebd1bfc1f2e265a212a4fb23412301c44e169643b00e4b8a144", checked := Try.checked }
namespace Rows
def none {H : Type} : Left H := { results := [], args := [] }

/-- 'n002_84.FnMapTypeNameIsMapForAnyContents': WHATEVER THE INPUT: true; the input reads as it did. -/
def fnMapTypeNameIsMapForAnyContentsSpec : ChangeSpec := { name := "fnMapTypeNameIsMapForAnyContents", fn := fun _ => fun
  | [d1, d2, d3] => { results := [.lit (.bool true)], args := [d1, d2, d3] }
  | _ => none }
def fnMapTypeNameIsMapForAnyContentsRow : OpenClaim := { program := "ythlhfhcjfikflaa", sum := "3d28a25b04ca9ebd1bfc1f2e265a212a4fb23412301c44e169643b00e4b8a144", func := "github.com/d5/tengo/v2/n002_84.FnMapTypeNameIsMapForAnyContents", spec := "fnMapTypeNameIsMapForAnyContents", unfollowed := true, recurses := true, apart := false }
def FnMapTypeNameIsMapForAnyContentsSaid : Prop := fnMapTypeNameIsMapForAnyContentsRow.holds Try.pinned (OpenSpec.ofChange fnMapTypeNameIsMapForAnyContentsSpec)

/-- ITS FALSE NEIGHBOUR: 'it returns false'. Refute it at one input. -/
def fnMapTypeNameIsMapForAnyContentsWrong : ChangeSpec := { name := "fnMapTypeNameIsMapForAnyContents", fn := fun _ => fun
  | [d1, d2, d3] => { results := [.lit (.bool false)], args := [d1, d2, d3] }
  | _ => none }
def FnMapTypeNameIsMapForAnyContentsWrongFalsely : Prop := fnMapTypeNameIsMapForAnyContentsRow.holds Try.pinned (OpenSpec.ofChange fnMapTypeNameIsMapForAnyContentsWrong)

/-- 'n002_84.FnImmutableMapCopyIsAMapEqualToMap': WHATEVER THE INPUT: true; the input reads as it did. -/
def fnImmutableMapCopyIsAMapEqualToMapSpec : ChangeSpec := { name := "fnImmutableMapCopyIsAMapEqualToMap", fn := fun _ => fun
  | [d1, d2] => { results := [.lit (.bool true)], args := [d1, d2] }
  | _ => none }
def fnImmutableMapCopyIsAMapEqualToMapRow : OpenClaim := { program := "ythlhfhcjfikflaa", sum := "3d28a25b04ca9ebd1bfc1f2e265a212a4fb23412301c44e169643b00e4b8a144", func := "github.com/d5/tengo/v2/n002_84.FnImmutableMapCopyIsAMapEqualToMap", spec := "fnImmutableMapCopyIsAMapEqualToMap", unfollowed := true, recurses := true, apart := false }
def FnImmutableMapCopyIsAMapEqualToMapSaid : Prop := fnImmutableMapCopyIsAMapEqualToMapRow.holds Try.pinned (OpenSpec.ofChange fnImmutableMapCopyIsAMapEqualToMapSpec)

/-- ITS FALSE NEIGHBOUR: 'it returns false'. Refute it at one input. -/
def fnImmutableMapCopyIsAMapEqualToMapWrong : ChangeSpec := { name := "fnImmutableMapCopyIsAMapEqualToMap", fn := fun _ => fun
  | [d1, d2] => { results := [.lit (.bool false)], args := [d1, d2] }
  | _ => none }
def FnImmutableMapCopyIsAMapEqualToMapWrongFalsely : Prop := fnImmutableMapCopyIsAMapEqualToMapRow.holds Try.pinned (OpenSpec.ofChange fnImmutableMapCopyIsAMapEqualToMapWrong)

/-- 'n002_84.FnMapCopyEqualsOriginalExactly': WHATEVER THE INPUT: true; the input reads as it did. -/
def fnMapCopyEqualsOriginalExactlySpec : ChangeSpec := { name := "fnMapCopyEqualsOriginalExactly", fn := fun _ => fun
  | [d1, d2, d3] => { results := [.lit (.bool true)], args := [d1, d2, d3] }
  | _ => none }
def fnMapCopyEqualsOriginalExactlyRow : OpenClaim := { program := "ythlhfhcjfikflaa", sum := "3d28a25b04ca9ebd1bfc1f2e265a212a4fb23412301c44e169643b00e4b8a144", func := "github.com/d5/tengo/v2/n002_84.FnMapCopyEqualsOriginalExactly", spec := "fnMapCopyEqualsOriginalExactly", unfollowed := true, recurses := true, apart := false }
def FnMapCopyEqualsOriginalExactlySaid : Prop := fnMapCopyEqualsOriginalExactlyRow.holds Try.pinned (OpenSpec.ofChange fnMapCopyEqualsOriginalExactlySpec)

/-- ITS FALSE NEIGHBOUR: 'it returns false'. Refute it at one input. -/
def fnMapCopyEqualsOriginalExactlyWrong : ChangeSpec := { name := "fnMapCopyEqualsOriginalExactly", fn := fun _ => fun
  | [d1, d2, d3] => { results := [.lit (.bool false)], args := [d1, d2, d3] }
  | _ => none }
def FnMapCopyEqualsOriginalExactlyWrongFalsely : Prop := fnMapCopyEqualsOriginalExactlyRow.holds Try.pinned (OpenSpec.ofChange fnMapCopyEqualsOriginalExactlyWrong)

/- THE SECOND FORM. 'bulk': how many values and letters a reading holds, each counted each time it is reached (what is shared counts as often as it is met; a slice's spare places count too). A statement '..UptoSaid' is the law's where the arguments, and the package variables that the reading takes, are together of bulk at most 1048576: NARROWER than '..Said'. Prove '..Said' where nothing that the law and all that it calls make is longer than what came in: it says more and counts as full. Else prove '..UptoSaid'. A law counts once. -/
mutual
def uptoBulk {H : Type} : DataW H → Nat
  | .lit (.string bytes) => bytes.length + 1
  | .lit _ => 1
  | .nil => 1
  | .ptr d => uptoBulk d + 1
  | .slice elems spare => uptoBulkAll elems + uptoBulkAll spare + 1
  | .agg parts => uptoBulkAll parts + 1
  | .iface _ d => uptoBulk d + 1
  | .map entries => uptoBulkEntries entries + 1
  | .held _ => 1
def uptoBulkAll {H : Type} : List (DataW H) → Nat
  | [] => 0
  | d :: r => uptoBulk d + uptoBulkAll r
def uptoBulkEntries {H : Type} : List (Lit × DataW H) → Nat
  | [] => 0
  | x :: r => uptoBulkEntry x + uptoBulkEntries r
def uptoBulkEntry {H : Type} : Lit × DataW H → Nat
  | (.string bytes, d) => bytes.length + uptoBulk d + 1
  | (_, d) => uptoBulk d + 1
 end
def uptoSmall : (H : Type) → List (DataW H) → Bool := fun _ ds => decide (uptoBulkAll ds ≤ 1048576)
def OpenSpec.upto (s : _root_.Go.ChangeSpec) : _root_.Go.OpenSpec := { _root_.Go.OpenSpec.ofChange s with cond := some uptoSmall }

/-- 'n002_84.FnMapTypeNameIsMapForAnyContents', WHERE WHAT IT READS IS OF BULK AT MOST 1048576: true; the input reads as it did. -/
def fnMapTypeNameIsMapForAnyContentsUptoRow : OpenClaim := { program := "ythlhfhcjfikflaa", sum := "3d28a25b04ca9ebd1bfc1f2e265a212a4fb23412301c44e169643b00e4b8a144", func := "github.com/d5/tengo/v2/n002_84.FnMapTypeNameIsMapForAnyContents", spec := "fnMapTypeNameIsMapForAnyContents", unfollowed := true, recurses := true, apart := false, narrowed := true }
def FnMapTypeNameIsMapForAnyContentsUptoSaid : Prop := fnMapTypeNameIsMapForAnyContentsUptoRow.holds Try.pinned (OpenSpec.upto fnMapTypeNameIsMapForAnyContentsSpec)

/-- 'n002_84.FnImmutableMapCopyIsAMapEqualToMap', WHERE WHAT IT READS IS OF BULK AT MOST 1048576: true; the input reads as it did. -/
def fnImmutableMapCopyIsAMapEqualToMapUptoRow : OpenClaim := { program := "ythlhfhcjfikflaa", sum := "3d28a25b04ca9ebd1bfc1f2e265a212a4fb23412301c44e169643b00e4b8a144", func := "github.com/d5/tengo/v2/n002_84.FnImmutableMapCopyIsAMapEqualToMap", spec := "fnImmutableMapCopyIsAMapEqualToMap", unfollowed := true, recurses := true, apart := false, narrowed := true }
def FnImmutableMapCopyIsAMapEqualToMapUptoSaid : Prop := fnImmutableMapCopyIsAMapEqualToMapUptoRow.holds Try.pinned (OpenSpec.upto fnImmutableMapCopyIsAMapEqualToMapSpec)

/-- 'n002_84.FnMapCopyEqualsOriginalExactly', WHERE WHAT IT READS IS OF BULK AT MOST 1048576: true; the input reads as it did. -/
def fnMapCopyEqualsOriginalExactlyUptoRow : OpenClaim := { program := "ythlhfhcjfikflaa", sum := "3d28a25b04ca9ebd1bfc1f2e265a212a4fb23412301c44e169643b00e4b8a144", func := "github.com/d5/tengo/v2/n002_84.FnMapCopyEqualsOriginalExactly", spec := "fnMapCopyEqualsOriginalExactly", unfollowed := true, recurses := true, apart := false, narrowed := true }
def FnMapCopyEqualsOriginalExactlyUptoSaid : Prop := fnMapCopyEqualsOriginalExactlyUptoRow.holds Try.pinned (OpenSpec.upto fnMapCopyEqualsOriginalExactlySpec)

end Rows
end Go.Proofs.Ythlhfhcjfikflaa
