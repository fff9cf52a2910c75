/-
  The scanner's error count, read. No conditions.
-/
import Derived.Test.YtamfekpcoppbgaaFmtNewScan
namespace Go.Proofs.YtamfekpcoppbgaaFmt
open Go.RowKit
set_option maxRecDepth 100000
set_option linter.unusedVariables false

theorem ecount_any (F : Fix) (src : List UInt8) (s : St) (w : World) (h : SC F src s w) :
    Calls Tryf.prog 17 #[.pointer (some ⟨F.gS, 0, none⟩)] w fun e w' => e = .returned (.int .i64 (s.ec : Int)) ∧ w = w' := by
  have c8 : w.cell? ⟨F.gS, 8, none⟩ = some (.int .i64 (s.ec : Int)) := by rw [h.blkS.cell]; rfl
  clear h
  go_enter Tryf.func17, Tryf.ntmps17
  go_wp2
  go_ret
  exact ⟨rfl, rfl⟩
end Go.Proofs.YtamfekpcoppbgaaFmt
