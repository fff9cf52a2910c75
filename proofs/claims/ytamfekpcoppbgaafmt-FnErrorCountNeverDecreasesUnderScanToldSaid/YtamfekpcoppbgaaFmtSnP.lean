/-
  Scan: what it hands back, and the arms that scan nothing further. Conditions: as stated.
-/
import Derived.Test.YtamfekpcoppbgaaFmtSnM
import Derived.Deep.DeepCutAuto
namespace Go.Proofs.YtamfekpcoppbgaaFmt
open Go.RowKit
set_option maxRecDepth 100000
set_option linter.unusedVariables false

theorem wrap_small (n : Int) (h0 : 0 ≤ n) (h1 : n ≤ 4611686018427387904) : wrap64 n = n := by
  unfold wrap64
  omega
/-- what Scan leaves -/
def ScanPost (F : Fix) (src : List UInt8) (s : St) (w : World) (e : Ending) (w' : World) : Prop :=
  ∃ (k : Int) (l : List UInt8) (o : Nat) (v : St), ScanR src s k l o v ∧ e = .returned (.tuple #[.int .i64 k, .string ⟨l.toArray⟩, .int .i64 ((F.fx.base : Int) + (o : Int))]) ∧ SC F src v w' ∧ Below F.B w w'
theorem ScanPost.of {F : Fix} {src : List UInt8} {s t v : St} {w w' : World} {k : Int} {l : List UInt8} (h1 : SkipR src s t) (h2 : TokR src t k l v) (hs : SC F src v w') (hb : Below F.B w w') :
    ScanPost F src s w (.returned (.tuple #[.int .i64 k, .string ⟨l.toArray⟩, .int .i64 ((F.fx.base : Int) + (t.off : Int))])) w' := ⟨k, l, t.off, v, ScanR.tok h1 h2, rfl, hs, hb⟩
theorem fin_yes {b : Bool} {u : St} (h : (bits .and .i64 u.mode 2 == 0) = true) : fin b u = { u with semi := b } := by
  unfold fin
  rw [if_pos h]
theorem fin_no {b : Bool} {u : St} (h : (bits .and .i64 u.mode 2 == 0) = false) : fin b u = u := by
  unfold fin
  rw [if_neg (by rw [h]; decide)]
end Go.Proofs.YtamfekpcoppbgaaFmt
