/-
  append(out, s...) of a string in a region that draws its order.
-/
import Derived.Test.YtohcajfgmgpoeaaDoorAppW
import Derived.Deep.AppendLies
import Derived.Deep.RegionHeld3
namespace Go.Proofs.YtohcajfgmgpoeaaDoor
open Go.RowKit
set_option maxRecDepth 100000
set_option linter.unusedVariables false

theorem step_app_str {w : World} {ops : Array Oper} {o : Oper} {a : Act} {K : Act → World → Prop} {Q : Exit → Act → World → Prop} {E : Prop} (hgd : o.guard = none) (s x : Operand)
    (ho : o.op = .call { callee := .builtin .append, args := #[s, x], argTypes := #[22, 9] })
    (B : Nat) (v : Value) (n : Nat) (l : List UInt8) (hs : a.eval s = v) (hown : OwnB w B v n l) (t : List UInt8) (hx : a.eval x = .string ⟨t.toArray⟩)
    (hlen : n + t.length ≤ 4294967296) (hB : B ≤ w.heap.size)
    (h : ∀ ao k cp w', k ≤ n + t.length → OwnB w' B (.slice ao k cp) k (l ++ t) → Below B w w' → K (a.put o.dst (.slice ao k cp)) w') :
    if Region.wanted o (yielded ops a.tmps) = true then Oper.wp Tryd.prog o a w K Q else E := by
  have hw : Region.wanted o (yielded ops a.tmps) = true := by simp [Region.wanted, hgd]
  rw [if_pos hw]
  obtain ⟨i0, hii, hy0, hy1, hy2⟩ := info_parts u8_info
  obtain ⟨v', w', hr, h2, h3, h4⟩ := run_append_own_src (P := Tryd.prog) w B 22 9 o.type 5 i0 (.int .u8 0) 1 1 Tryd.underlying22 hii hy0 hy1 hy2 rfl (by decide) v n (u8c l) hown (.string ⟨t.toArray⟩) t.length (u8c t) (src_str Tryd.underlying9 t) (by simp only [maxLen]; omega) (by omega) hB
  obtain ⟨ao, cp, rfl, h1, _⟩ := own_val0 h2
  unfold Oper.wp execOp
  simp only [ho, resolve, invoke, builtin, Sem.run_bind, Sem.run_pure, Result.andThen_ok, List.map_toArray, List.map_cons, List.map_nil, hs, hx, hr]
  exact h ao _ cp w' (Nat.le_refl _) (by unfold OwnB; rw [u8c_app]; exact h2) (own_grow hown hB h3)
theorem step_call {w : World} {ops : Array Oper} {o : Oper} {a : Act} {K : Act → World → Prop} {Q : Exit → Act → World → Prop} {E : Prop} (hgd : o.guard = none) (f : FuncId) (fn : Func) (hfn : Tryd.prog.funcs[f]? = some fn) (hnm : (fn.name == "runtime.NumGoroutine") = false) (hbd : fn.body.isNone = false) (xs : Array Operand) (ts : Array TypeId)
    (ho : o.op = .call { callee := .value (.func f), args := xs, argTypes := ts }) (args : Array Value) (ha : xs.map a.eval = args)
    (h : Calls Tryd.prog f args w fun e w' => ∃ v, e = .returned v ∧ K (a.put o.dst v) w') :
    if Region.wanted o (yielded ops a.tmps) = true then Oper.wp Tryd.prog o a w K Q else E := by
  have hw : Region.wanted o (yielded ops a.tmps) = true := by simp [Region.wanted, hgd]
  rw [if_pos hw]
  unfold Oper.wp execOp
  rw [ho]
  have hf : a.eval (.func f) = .func (.func f) #[] #[] := rfl
  have hnm2 : ¬ fn.name = "runtime.NumGoroutine" := by simpa using hnm
  have hbd2 : ¬ fn.body = none := by
    intro e
    rw [e] at hbd
    cases hbd
  simp [resolve, invoke, ha, hf, Deferred.ofValue, callFunc, Result.andThen, hfn, hnm2, hbd2]
  rw [Oper.upon_enter]
  refine h.mono ?_
  rintro e w' ⟨v, rfl, hk⟩
  exact hk
theorem step_dec {w : World} {ops : Array Oper} {o : Oper} {a : Act} {K : Act → World → Prop} {Q : Exit → Act → World → Prop} {E : Prop} (c : Nat) (hgd : o.guard = none)
    (ho : o.op = .call { callee := .value (.func 9), args := #[.tmp 122], argTypes := #[29] }) (ha : a.eval (.tmp 122) = .int .u64 (c : Int))
    (h : Calls Tryd.prog 9 #[.int .u64 (c : Int)] w fun e w' => ∃ v, e = .returned v ∧ K (a.put o.dst v) w') :
    if Region.wanted o (yielded ops a.tmps) = true then Oper.wp Tryd.prog o a w K Q else E :=
  step_call hgd _ _ Tryd.func9 (by kernel_rfl) (by kernel_rfl) _ _ ho _ (by simp [ha]) h
theorem step_itx {w : World} {ops : Array Oper} {o : Oper} {a : Act} {K : Act → World → Prop} {Q : Exit → Act → World → Prop} {E : Prop} (D S : List UInt8) (iz : Bool) (wid : Nat) (wp : Bool) (prec : Nat) (pp mi ze : Bool) (hgd : o.guard = none)
    (ho : o.op = .call { callee := .value (.func 11), args := #[.tmp 123, .tmp 124, .tmp 129, .tmp 130, .tmp 131, .tmp 132, .tmp 133, .tmp 134, .tmp 135], argTypes := #[9, 9, 4, 3, 4, 3, 4, 4, 4] })
    (h1 : a.eval (.tmp 123) = .string ⟨D.toArray⟩) (h2 : a.eval (.tmp 124) = .string ⟨S.toArray⟩) (h3 : a.eval (.tmp 129) = .bool iz) (h4 : a.eval (.tmp 130) = .int .i64 (wid : Int)) (h5 : a.eval (.tmp 131) = .bool wp) (h6 : a.eval (.tmp 132) = .int .i64 (prec : Int)) (h7 : a.eval (.tmp 133) = .bool pp) (h8 : a.eval (.tmp 134) = .bool mi) (h9 : a.eval (.tmp 135) = .bool ze)
    (h : Calls Tryd.prog 11 #[.string ⟨D.toArray⟩, .string ⟨S.toArray⟩, .bool iz, .int .i64 (wid : Int), .bool wp, .int .i64 (prec : Int), .bool pp, .bool mi, .bool ze] w fun e w' => ∃ v, e = .returned v ∧ K (a.put o.dst v) w') :
    if Region.wanted o (yielded ops a.tmps) = true then Oper.wp Tryd.prog o a w K Q else E :=
  step_call hgd _ _ Tryd.func11 (by kernel_rfl) (by kernel_rfl) _ _ ho _ (by simp [h1, h2, h3, h4, h5, h6, h7, h8, h9]) h
end Go.Proofs.YtohcajfgmgpoeaaDoor
