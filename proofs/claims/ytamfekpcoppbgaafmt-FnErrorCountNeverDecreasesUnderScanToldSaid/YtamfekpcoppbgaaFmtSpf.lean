/-
  fmt.Sprintf at one int32: some text, the memory as it was. Conditions: fmt answers by the tape.
-/
import Derived.Test.YtamfekpcoppbgaaFmtKit
import Derived.Stop.AnyFormat
import Derived.Stop.Texts
namespace Go.Proofs.YtamfekpcoppbgaaFmt
open Go.RowKit
open Go.Extern.Stop Go.Stop Go.Extern
set_option maxRecDepth 100000

theorem spf_call (args : Array Value) (w : World) : (callFunc 48 args).run Tryf.prog w = ((FmtStop.sprintf #[9, 125] #[9] args).run Tryf.prog w).andThen fun v w' => .ok (.value v) w' :=
  run_callFunc_extern Tryf.func48 (by kernel_rfl) (by kernel_rfl) (by kernel_rfl) (by kernel_rfl) args w
theorem spf_guard (w : World) : (FmtStop.guard "fmt.Sprintf").run Tryf.prog w = .ok () w := by kernel_rfl
theorem spf_any (I : Interp) (f : ByteArray) (g : Nat) (c : Int) (w : World) (hF : I.answers w.tape) (hc : w.cell? ⟨g, 0, none⟩ = some (.iface 21 (.int .i32 c))) :
    ∃ S : ByteArray, (callFunc 48 #[.string f, .slice (some ⟨g, 0, none⟩) 1 1]).run Tryf.prog w = .ok (.value (.string S)) w.drew := by
  obtain ⟨info, hi⟩ : ∃ info, Tryf.prog.info? 21 = some info := Option.isSome_iff_exists.1 (by kernel_rfl)
  have hs : info.str ≠ "" := by
    have h : (Tryf.prog.info? 21).map (fun i => decide (i.str ≠ "")) = some true := by kernel_rfl
    rw [hi] at h
    simpa using h
  have hm : info.methods = #[] := by
    have h : (Tryf.prog.info? 21).map (fun i => i.methods.size) = some 0 := by kernel_rfl
    rw [hi] at h
    simpa using h
  have hcells : (FmtStop.cells (.slice (some ⟨g, 0, none⟩) 1 1)).run Tryf.prog w = .ok [.iface 21 (.int .i32 c)] w := by
    simp [FmtStop.cells, loadCells, loadCellsFrom, go_sem, hc]
  obtain ⟨ops, h⟩ := FmtStop.sprintf_any_format (P := Tryf.prog) (w := w) I hF #[9, 125] #[9] f _ _ (spf_guard w) hcells
    (fun v hv verb sharp => by
      obtain rfl := List.mem_singleton.1 hv
      exact FmtStop.operand_any_int (w := w) c hi hs hm Tryf.underlying21 _ _ _ _)
    (fun v hv => by
      obtain rfl := List.mem_singleton.1 hv
      exact FmtStop.strict_any_int (w := w) c hi hs hm Tryf.underlying21 _)
  have h2 := spf_call #[.string f, .slice (some ⟨g, 0, none⟩) 1 1] w
  rw [h] at h2
  exact ⟨_, h2⟩
end Go.Proofs.YtamfekpcoppbgaaFmt
