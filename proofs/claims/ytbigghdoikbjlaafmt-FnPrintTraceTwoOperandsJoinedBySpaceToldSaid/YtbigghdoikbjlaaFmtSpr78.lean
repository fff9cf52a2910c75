/-
  fmt.Sprint and fmt.Sprintln at strings: the very texts. Conditions: fmt is told by the kit's own function.
-/
import Derived.Test.YtbigghdoikbjlaaFmtKit
import Derived.Stop.AnyFormat
import Derived.Stop.Texts
import Derived.Stop.Told
import Derived.Stop.FmtTextKit
import Derived.Stop.FmtTextVerbs
import Derived.Stop.CallBack
namespace Go.Proofs.YtbigghdoikbjlaaFmt
open Go.RowKit
open Go.Extern.Stop Go.Stop Go.Extern
set_option maxRecDepth 100000
set_option linter.unusedVariables false

def strSh : List UInt8 := 12 :: FmtStop.pack "string".toUTF8.data.toList
theorem op_str (name : String) (s : List UInt8) (w : World) : (FmtStop.operand name false 118 false (.iface 9 (.string ⟨s.toArray⟩))).run Tryf.prog w = .ok (strSh, FmtStop.pack s) w := by
  obtain ⟨info, hi⟩ : ∃ info, Tryf.prog.info? 9 = some info := Option.isSome_iff_exists.1 (by kernel_rfl)
  have hs : info.str = "string" := by
    have h : (Tryf.prog.info? 9).map (fun i => i.str) = some "string" := by kernel_rfl
    rw [hi] at h
    simpa using h
  have hm : info.methods = #[] := by
    have h : (Tryf.prog.info? 9).map (fun i => i.methods.size) = some 0 := by kernel_rfl
    rw [hi] at h
    simpa using h
  have hu := Tryf.underlying9
  have hs2 : info.str ≠ "" := by rw [hs]; decide
  simp [FmtStop.operand, typeStr, typeInfo, hi, hs2, underlying, hu, FmtStop.shape, FmtStop.depth, FmtStop.bare, hm, FmtStop.value, Value.cells]
  rw [hs, if_neg (by rintro ⟨i, h, _⟩; simp [hm] at h)]
  rfl
theorem ops_one (s : List UInt8) (hs : s.length < 2 ^ 64) : FmtText.operands [strSh, FmtStop.pack s] = some [.str "string".toUTF8.data.toList s] :=
  FmtText.operands_cons (FmtText.operand_str_at (sh := strSh) rfl (FmtText.unpack_pack _ (by decide)) s hs) FmtText.operands_nil
theorem ops_two (s u : List UInt8) (hs : s.length < 2 ^ 64) (hu : u.length < 2 ^ 64) : FmtText.operands [strSh, FmtStop.pack s, strSh, FmtStop.pack u] = some [.str "string".toUTF8.data.toList s, .str "string".toUTF8.data.toList u] :=
  FmtText.operands_cons (FmtText.operand_str_at (sh := strSh) rfl (FmtText.unpack_pack _ (by decide)) s hs) (FmtText.operands_cons (FmtText.operand_str_at (sh := strSh) rfl (FmtText.unpack_pack _ (by decide)) u hu) FmtText.operands_nil)
theorem txt_sprint (s : List UInt8) (hs : s.length < 2 ^ 64) : FmtText.text "fmt.Sprint" [strSh, FmtStop.pack s] = some s := by
  rw [FmtText.text_sprint (ops_one s hs)]
  simp [FmtText.doPrint, FmtText.printArg_v_str]
theorem txt_ln1 (s : List UInt8) (hs : s.length < 2 ^ 64) : FmtText.text "fmt.Sprintln" [strSh, FmtStop.pack s] = some (s ++ [10]) := by
  rw [FmtText.text_sprintln (ops_one s hs)]
  simp [FmtText.doPrintln, FmtText.printArg_v_str]
theorem txt_ln2 (s u : List UInt8) (hs : s.length < 2 ^ 64) (hu : u.length < 2 ^ 64) : FmtText.text "fmt.Sprintln" [strSh, FmtStop.pack s, strSh, FmtStop.pack u] = some (s ++ 32 :: (u ++ [10])) := by
  rw [FmtText.text_sprintln (ops_two s u hs hu)]
  simp [FmtText.doPrintln, FmtText.printArg_v_str]
theorem told_of (I : Interp) (front : String) (r : List (List UInt8)) (T : List UInt8) (ht : FmtText.text front r = some T) (hl : T.length < 2 ^ 63) : FmtStop.textOf (I.told front r 0) = ⟨T.toArray⟩ := by
  have h1 := told_string I ht hl
  have h2 := Kit.textOf_list I.told front r
  rw [h1] at h2
  rw [← h2]
theorem spr_call (args : Array Value) (w : World) : (callFunc 14 args).run Tryf.prog w = ((FmtStop.sprint "fmt.Sprint" #[49] #[9] args).run Tryf.prog w).andThen fun v w' => .ok (.value v) w' :=
  run_callFunc_extern Tryf.func14 (by kernel_rfl) (by kernel_rfl) (by kernel_rfl) (by kernel_rfl) args w
theorem st_guard (name : String) (w : World) : (FmtStop.guard name).run Tryf.prog w = .ok () w := by kernel_rfl
theorem sprint1 (I : Interp) (g : Nat) (s : List UInt8) (w : World) (hF : I.told.answers w.tape) (hs : s.length < 2 ^ 62) (hc : w.cell? ⟨g, 0, none⟩ = some (.iface 9 (.string ⟨s.toArray⟩))) :
    (callFunc 14 #[.slice (some ⟨g, 0, none⟩) 1 1]).run Tryf.prog w = .ok (.value (.string ⟨s.toArray⟩)) w.drew := by
  have hcells : (FmtStop.cells (.slice (some ⟨g, 0, none⟩) 1 1)).run Tryf.prog w = .ok [.iface 9 (.string ⟨s.toArray⟩)] w := by
    simp [FmtStop.cells, loadCells, loadCellsFrom, go_sem, hc]
  have hto := told_of I "fmt.Sprint" [strSh, FmtStop.pack s] s (txt_sprint s (by omega)) (by omega)
  have hop := op_str "fmt.Sprint" s w
  rw [spr_call, FmtStop.sprint_lit]
  simp only [Sem.run_bind, st_guard, Result.andThen_ok, hcells, List.mapM_cons, List.mapM_nil, hop, Sem.run_pure]
  rw [FmtStop.run_text I.told _ _ _ w hF]
  simp only [List.flatMap_cons, List.flatMap_nil, List.append_nil, List.nil_append, hto, Result.andThen_ok]
theorem next_turns : Extern.next FmtCalls.turnsRow = some (FmtCalls.begun #[] #[]) := by kernel_rfl
theorem ln_call (args : Array Value) (w : World) : (callFunc 15 args).run Tryf.prog w = (FmtCalls.sprint 2 #[49] #[9] args).run Tryf.prog w :=
  run_callFunc_next Tryf.func15 (by kernel_rfl) (by kernel_rfl) (by kernel_rfl) args w
theorem act_str (name : String) (x : Value) (w : World) : (FmtCalls.act name false 118 false (.iface 9 x)).run Tryf.prog w = .ok (.closed false) w := by
  obtain ⟨info, hi⟩ : ∃ info, Tryf.prog.info? 9 = some info := Option.isSome_iff_exists.1 (by kernel_rfl)
  have hm : info.methods = #[] := by
    have h : (Tryf.prog.info? 9).map (fun i => i.methods.size) = some 0 := by kernel_rfl
    rw [hi] at h
    simpa using h
  simp [FmtCalls.act, typeInfo, hi, hm]
theorem ln1 (g : Nat) (w : World) : (callFunc 15 #[.slice (some ⟨g, 0, none⟩) 1 1]).run Tryf.prog w = .ok (.row FmtCalls.turnsRow (FmtCalls.save 2 0 (.slice (some ⟨g, 0, none⟩) 1 1) .empty [] [(0, 118, false)])) w := by
  rw [ln_call, FmtCalls.sprint_lit]
  simp only [Sem.run_bind, st_guard, Result.andThen_ok]
  rfl
theorem ln2 (g : Nat) (w : World) : (callFunc 15 #[.slice (some ⟨g, 0, none⟩) 2 2]).run Tryf.prog w = .ok (.row FmtCalls.turnsRow (FmtCalls.save 2 0 (.slice (some ⟨g, 0, none⟩) 2 2) .empty [] [(0, 118, false), (1, 118, false)])) w := by
  rw [ln_call, FmtCalls.sprint_lit]
  simp only [Sem.run_bind, st_guard, Result.andThen_ok]
  rfl
theorem run_finish (F : Interp) (a : Value) (acc : List (List UInt8)) (w : World) (hF : F.answers w.tape) :
    (FmtCalls.finish 2 a .empty acc 0).run Tryf.prog w = .ok (.value (.string (FmtStop.textOf (F "fmt.Sprintln" acc 0)))) w.drew := by
  have h := hF w.drawn "fmt.Sprintln" acc 0 0
  simp [FmtCalls.finish, FmtCalls.frontName, Question.forced, Question.cut, h]
  rfl
theorem ln1_turns (I : Interp) (g : Nat) (s : List UInt8) (w : World) (hF : I.told.answers w.tape) (hs : s.length < 2 ^ 62) (hc : w.cell? ⟨g, 0, none⟩ = some (.iface 9 (.string ⟨s.toArray⟩))) :
    (FmtCalls.begun #[] #[] (FmtCalls.save 2 0 (.slice (some ⟨g, 0, none⟩) 1 1) .empty [] [(0, 118, false)])).run Tryf.prog w = .ok (.value (.string ⟨(s ++ [10]).toArray⟩)) w.drew := by
  have hto := told_of I "fmt.Sprintln" [strSh, FmtStop.pack s] (s ++ [10]) (txt_ln1 s (by omega)) (by simp; omega)
  have hop := op_str "fmt.Sprintln" s w
  have hac := act_str "fmt.Sprintln" (.string ⟨s.toArray⟩) w
  have hld : (FmtDoors.operand (.slice (some ⟨g, 0, none⟩) 1 1) 0).run Tryf.prog w = .ok (.iface 9 (.string ⟨s.toArray⟩)) w := by
    simp [FmtDoors.operand, go_sem, hc]
  rw [FmtCalls.run_begun_save]
  simp only [FmtCalls.turns, FmtCalls.frontName, Sem.run_bind, hld, Result.andThen_ok, show ((2 : Nat) == 3) = false from rfl, hac, hop, List.nil_append]
  rw [run_finish I.told _ _ w hF, hto]
theorem ln2_turns (I : Interp) (g : Nat) (s u : List UInt8) (w : World) (hF : I.told.answers w.tape) (hs : s.length < 2 ^ 60) (hu : u.length < 2 ^ 60) (hc : w.cell? ⟨g, 0, none⟩ = some (.iface 9 (.string ⟨s.toArray⟩))) (hd : w.cell? ⟨g, 1, none⟩ = some (.iface 9 (.string ⟨u.toArray⟩))) :
    (FmtCalls.begun #[] #[] (FmtCalls.save 2 0 (.slice (some ⟨g, 0, none⟩) 2 2) .empty [] [(0, 118, false), (1, 118, false)])).run Tryf.prog w = .ok (.value (.string ⟨(s ++ 32 :: (u ++ [10])).toArray⟩)) w.drew := by
  have hto := told_of I "fmt.Sprintln" [strSh, FmtStop.pack s, strSh, FmtStop.pack u] (s ++ 32 :: (u ++ [10])) (txt_ln2 s u (by omega) (by omega)) (by simp; omega)
  have hop := op_str "fmt.Sprintln" s w
  have hop2 := op_str "fmt.Sprintln" u w
  have hac := act_str "fmt.Sprintln" (.string ⟨s.toArray⟩) w
  have hac2 := act_str "fmt.Sprintln" (.string ⟨u.toArray⟩) w
  have hld : (FmtDoors.operand (.slice (some ⟨g, 0, none⟩) 2 2) 0).run Tryf.prog w = .ok (.iface 9 (.string ⟨s.toArray⟩)) w := by
    simp [FmtDoors.operand, go_sem, hc]
  have hld2 : (FmtDoors.operand (.slice (some ⟨g, 0, none⟩) 2 2) 1).run Tryf.prog w = .ok (.iface 9 (.string ⟨u.toArray⟩)) w := by
    simp [FmtDoors.operand, go_sem, hd]
  rw [FmtCalls.run_begun_save]
  simp only [FmtCalls.turns, FmtCalls.frontName, Sem.run_bind, hld, hld2, Result.andThen_ok, show ((2 : Nat) == 3) = false from rfl, hac, hop, hac2, hop2, List.nil_append, List.cons_append]
  rw [run_finish I.told _ _ w hF, hto]
end Go.Proofs.YtbigghdoikbjlaaFmt
