/-
  fmt.Sprintf at a format with one plain %d and one int: the very text. Conditions: fmt is told by the kit's own function.
-/
import Derived.Test.YthkbkghddpkifaaFmtKit
import Derived.Stop.AnyFormat
import Derived.Stop.Texts
import Derived.Stop.Told
import Derived.Stop.FmtTextKit
namespace Go.Proofs.YthkbkghddpkifaaFmt
open Go.RowKit
open Go.Extern.Stop Go.Stop Go.Extern
set_option maxRecDepth 100000

theorem spf_call (args : Array Value) (w : World) : (callFunc 8 args).run Tryf.prog w = ((FmtStop.sprintf #[9, 47] #[9] args).run Tryf.prog w).andThen fun v w' => .ok (.value v) w' :=
  run_callFunc_extern Tryf.func8 (by kernel_rfl) (by kernel_rfl) (by kernel_rfl) (by kernel_rfl) args w
theorem spf_guard (w : World) : (FmtStop.guard "fmt.Sprintf").run Tryf.prog w = .ok () w := by kernel_rfl
theorem spfd (I : Interp) (f : ByteArray) (pre : List UInt8) (ps : List FmtText.Piece) (g : Nat) (n : Int) (w : World) (hF : I.told.answers w.tape) (hn : (Lit.int .i64 n).wf = true) (hpre : pre.length ≤ 1000)
    (hc : w.cell? ⟨g, 0, none⟩ = some (.iface 3 (.int .i64 n))) (hp1 : FmtStop.printed? f 1 = some [(0, 100, false)]) (hp2 : (FmtText.parse f.data.toList).map FmtText.glue = some ps)
    (hr : ∀ op, FmtText.render false ps [op] = (FmtText.printArg false {} 100 op).map (pre ++ ·)) :
    (callFunc 8 #[.string f, .slice (some ⟨g, 0, none⟩) 1 1]).run Tryf.prog w = .ok (.value (.string ⟨(pre ++ Lib.itoa n).toArray⟩)) w.drew := by
  obtain ⟨info, hi⟩ : ∃ info, Tryf.prog.info? 3 = some info := Option.isSome_iff_exists.1 (by kernel_rfl)
  have hs : info.str = "int" := by
    have h : (Tryf.prog.info? 3).map (fun i => i.str) = some "int" := by kernel_rfl
    rw [hi] at h
    simpa using h
  have hm : info.methods = #[] := by
    have h : (Tryf.prog.info? 3).map (fun i => i.methods.size) = some 0 := by kernel_rfl
    rw [hi] at h
    simpa using h
  have hcells : (FmtStop.cells (.slice (some ⟨g, 0, none⟩) 1 1)).run Tryf.prog w = .ok [.iface 3 (.int .i64 n)] w := by
    simp [FmtStop.cells, loadCells, loadCellsFrom, go_sem, hc]
  have hop : (FmtStop.operand "fmt.Sprintf" false 100 false (.iface 3 (.int .i64 n))).run Tryf.prog w = .ok (FmtStop.intCode .i64 :: FmtStop.pack "int".toUTF8.data.toList, digits 8 (n % 18446744073709551616).toNat) w := by
    have hu := Tryf.underlying3
    have hs2 : info.str ≠ "" := by rw [hs]; decide
    simp [FmtStop.operand, typeStr, typeInfo, hi, hs2, underlying, hu, FmtStop.shape, FmtStop.depth, FmtStop.bare, hm, FmtStop.value, Value.cells]
    rw [hs, if_neg (by rintro ⟨i, h, _⟩; simp [hm] at h)]
  have ho : FmtText.operands [FmtStop.intCode .i64 :: FmtStop.pack "int".toUTF8.data.toList, digits 8 (n % 18446744073709551616).toNat] = some [.int "int".toUTF8.data.toList true (n % 18446744073709551616).toNat] :=
    FmtText.operands_cons (FmtText.operand_int_at (k := .i64) rfl (FmtText.unpack_pack _ (by decide)) n hn) FmtText.operands_nil
  have ht : FmtText.text "fmt.Sprintf" (f.data.toList :: [FmtStop.intCode .i64 :: FmtStop.pack "int".toUTF8.data.toList, digits 8 (n % 18446744073709551616).toNat]) = some (pre ++ Lib.itoa n) := by
    rw [FmtText.text_sprintf_glued hp2 ho, hr]
    have := FmtText.printArg_d false "int".toUTF8.data.toList hn
    simp only [IntKind.signed] at this
    rw [this]
    rfl
  have hl : (pre ++ Lib.itoa n).length < 2 ^ 63 := by
    have := FmtText.itoa_length_le hn
    rw [List.length_append]
    omega
  have hts := told_string I ht hl
  have hto : FmtStop.textOf (I.told "fmt.Sprintf" (f.data.toList :: [FmtStop.intCode .i64 :: FmtStop.pack "int".toUTF8.data.toList, digits 8 (n % 18446744073709551616).toNat]) 0) = ⟨(pre ++ Lib.itoa n).toArray⟩ := by
    have := Kit.textOf_list I.told "fmt.Sprintf" (f.data.toList :: [FmtStop.intCode .i64 :: FmtStop.pack "int".toUTF8.data.toList, digits 8 (n % 18446744073709551616).toNat])
    rw [hts] at this
    rw [← this]
  rw [spf_call, FmtStop.sprintf_lit]
  simp only [Sem.run_bind, spf_guard, Result.andThen_ok, hcells, List.length_cons, List.length_nil, Nat.zero_add, hp1]
  simp only [FmtStop.readAll, List.getElem?_cons_zero, Sem.run_bind, hop, Result.andThen_ok, Sem.run_pure]
  rw [FmtStop.run_text I.told _ _ _ w hF]
  simp only [List.flatMap_cons, List.flatMap_nil, List.append_nil, List.cons_append, List.nil_append, hto, Result.andThen_ok]
theorem spfd0 (I : Interp) (g : Nat) (n : Int) (w : World) (hF : I.told.answers w.tape) (hn : (Lit.int .i64 n).wf = true) (hc : w.cell? ⟨g, 0, none⟩ = some (.iface 3 (.int .i64 n))) :
    (callFunc 8 #[.string ⟨#[37, 100]⟩, .slice (some ⟨g, 0, none⟩) 1 1]).run Tryf.prog w = .ok (.value (.string ⟨(Lib.itoa n).toArray⟩)) w.drew :=
  spfd I ⟨#[37, 100]⟩ [] [.verb {} 100] g n w hF hn (by decide) hc (by rfl) (by rfl) (fun op => by simp [FmtText.render])
theorem spfd1 (I : Interp) (g : Nat) (n : Int) (w : World) (hF : I.told.answers w.tape) (hn : (Lit.int .i64 n).wf = true) (hc : w.cell? ⟨g, 0, none⟩ = some (.iface 3 (.int .i64 n))) :
    (callFunc 8 #[.string ⟨#[58, 37, 100]⟩, .slice (some ⟨g, 0, none⟩) 1 1]).run Tryf.prog w = .ok (.value (.string ⟨(58 :: Lib.itoa n).toArray⟩)) w.drew :=
  spfd I ⟨#[58, 37, 100]⟩ [58] [.lit [58], .verb {} 100] g n w hF hn (by decide) hc (by rfl) (by rfl) (fun op => by simp [FmtText.render])
end Go.Proofs.YthkbkghddpkifaaFmt
