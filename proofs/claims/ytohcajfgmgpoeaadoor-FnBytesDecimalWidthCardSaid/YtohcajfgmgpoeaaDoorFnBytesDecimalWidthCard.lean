/-
  FnBytesDecimalWidth, its card: each byte of the list under width, precision, minus, plus and zero as the law's own model renders it. Conditions: none beyond the law's own; the listed variables are tied to the program's text by the given tie.
-/
import Derived.Test.YtohcajfgmgpoeaaDoorWid97
import Derived.Test.YtohcajfgmgpoeaaDoorVarInt
import Derived.Test.YtohcajfgmgpoeaaDoorCards
import Derived.Test.YtohcajfgmgpoeaaDoorTie
import Derived.Lay
import Derived.SevenTiedAt
namespace Go.Proofs.YtohcajfgmgpoeaaDoor.fnBytesDecimalWidth
open Go.ChangeShapes Go.WideShapes Go.ChangeAt Go.RowKit
open Go.WideMaps Go.WideElems
open Go.ChangeMaps (open_string)
set_option linter.unusedVariables false
set_option maxRecDepth 100000
theorem fits (H : Type) (ds gs : List (DataW H)) (h1 : ds.length = Tryd.f4.params.toList.length) (h2 : gs.length = Rows.fnBytesDecimalWidthSpec.vars.length) :
    Rows.fnBytesDecimalWidthSpec.fn H (ds ++ gs) = { results := [.lit (.bool true)], args := ds, vars := gs } := by
  rw [Tryd.params4] at h1
  have h1' : ds.length = 9 := h1
  have h2' : gs.length = 2 := h2
  match ds, gs, h1', h2' with
  | [d0, d1, d2, d3, d4, d5, d6, d7, d8], [g0, g1], _, _ => rfl
set_option maxHeartbeats 1000000 in
theorem contract (H : Type) (enc : TypeId × Value → H) (W : World) (base : Nat) (args : Array Value) (ds gs : List (DataW H)) (before : List MemPlace)
    (hval : ∀ (j : Nat) t v, Tryd.f4.params[j]? = some t → args[j]? = some v → Value.okWide Tryd.prog W .any base t v)
    (hW : DataW.Whole enc Tryd.prog Tryd.f4.params.toList Rows.fnBytesDecimalWidthSpec.vars false W args.toList ds gs before) (hL : laidMetH Tryd.prog Rows.fnBytesDecimalWidthRow.laid W) :
    Calls Tryd.prog 4 args W fun e W' => ∃ v, e = .returned v ∧ Rows.fnBytesDecimalWidthSpec.post enc Tryd.prog Tryd.f4 false true false false W args v W' := by
  have hW0 := hW
  obtain ⟨p, q, hA0, hV, rfl, hfz, hnd⟩ := hW
  have hA : DataW.TrodAll enc Tryd.prog W 0 (fun _ => true) true Tryd.f4.params.toList args.toList ds p := hA0
  rw [Tryd.params4] at hA hval
  obtain ⟨v0, vs0, d0, ds0, p0, q0, hargs, rfl, rfl, h0, r0⟩ := trodAll_cons hA
  obtain ⟨v1, vs1, d1, ds1, p1, q1, rfl, rfl, rfl, h1, r1⟩ := trodAll_cons r0
  obtain ⟨v2, vs2, d2, ds2, p2, q2, rfl, rfl, rfl, h2, r2⟩ := trodAll_cons r1
  obtain ⟨v3, vs3, d3, ds3, p3, q3, rfl, rfl, rfl, h3, r3⟩ := trodAll_cons r2
  obtain ⟨v4, vs4, d4, ds4, p4, q4, rfl, rfl, rfl, h4, r4⟩ := trodAll_cons r3
  obtain ⟨v5, vs5, d5, ds5, p5, q5, rfl, rfl, rfl, h5, r5⟩ := trodAll_cons r4
  obtain ⟨v6, vs6, d6, ds6, p6, q6, rfl, rfl, rfl, h6, r6⟩ := trodAll_cons r5
  obtain ⟨v7, vs7, d7, ds7, p7, q7, rfl, rfl, rfl, h7, r7⟩ := trodAll_cons r6
  obtain ⟨v8, vs8, d8, ds8, p8, q8, rfl, rfl, rfl, h8, r8⟩ := trodAll_cons r7
  obtain ⟨rfl, rfl, rfl⟩ := trodAll_nil r8
  obtain rfl : args = #[v0, v1, v2, v3, v4, v5, v6, v7, v8] := by cases args; simp_all
  obtain ⟨o0, c0, a0, rfl, bl0, bm0, bs0, bn0⟩ := open_bytes (hval 0 22 v0 rfl rfl) h0 (by have := hW0.lt; intro x hx; exact this x (by simp [hx]))
  obtain ⟨a1, rfl, rfl, rfl, w1⟩ := open_int Tryd.underlying21 (hval 1 21 v1 rfl rfl) h1
  have b1 := w1
  simp only [Lit.wf, IntKind.min, IntKind.max, IntKind.signed, IntKind.bits, Bool.and_eq_true, decide_eq_true_eq] at b1
  obtain ⟨a2, rfl, rfl, rfl, w2⟩ := open_int Tryd.underlying3 (hval 2 3 v2 rfl rfl) h2
  have b2 := w2
  simp only [Lit.wf, IntKind.min, IntKind.max, IntKind.signed, IntKind.bits, Bool.and_eq_true, decide_eq_true_eq] at b2
  obtain ⟨a3, rfl, rfl, rfl⟩ := open_bool Tryd.underlying4 (hval 3 4 v3 rfl rfl) h3
  obtain ⟨a4, rfl, rfl, rfl, w4⟩ := open_int Tryd.underlying3 (hval 4 3 v4 rfl rfl) h4
  have b4 := w4
  simp only [Lit.wf, IntKind.min, IntKind.max, IntKind.signed, IntKind.bits, Bool.and_eq_true, decide_eq_true_eq] at b4
  obtain ⟨a5, rfl, rfl, rfl⟩ := open_bool Tryd.underlying4 (hval 5 4 v5 rfl rfl) h5
  obtain ⟨a6, rfl, rfl, rfl⟩ := open_bool Tryd.underlying4 (hval 6 4 v6 rfl rfl) h6
  obtain ⟨a7, rfl, rfl, rfl⟩ := open_bool Tryd.underlying4 (hval 7 4 v7 rfl rfl) h7
  obtain ⟨a8, rfl, rfl, rfl⟩ := open_bool Tryd.underlying4 (hval 8 4 v8 rfl rfl) h8
  clear hA0
  have hL' : laidMet Tryd.prog Rows.fnBytesDecimalWidthRow.laid W := by rw [MakeChecks.laidMetH_plain _ _ _ (by kernel_rfl)] at hL; exact hL
  have hMx := laid_reads hL' (.tail _ (.tail _ (.head _)))
  have hM : MaxS W := int_of_reads (g := 0) (t := 3) (by kernel_rfl) (by kernel_rfl) Tryd.underlying3 hMx
  have hG := cell_lt hM
  refine (law_width o0 c0 a0 a1 a2 a3 a4 a5 a6 a7 a8 W bl0 bm0 bs0 bn0 b2.1 b2.2 b4.1 b4.2 hM hG).mono fun e W' ⟨he, hg⟩ => ?_
  subst he
  exact ⟨_, rfl, law_post kLaidOut (by kernel_rfl) (by kernel_rfl) (by rfl) Tryd.underlying4 (fits H) hW0 hg⟩
set_option maxRecDepth 100000 in
theorem lifted (os : Os) (started : os.Started) (H : Type) (enc : TypeId × Value → H) :
    ReturnsInHanded {} Tryd.checked os 4 .any (fun w args => (Rows.fnBytesDecimalWidthSpec.pre enc Tryd.prog Tryd.f4 [] false w args ∧ laidMetH Tryd.prog Rows.fnBytesDecimalWidthRow.laid w) ∧ sizedMet enc Tryd.prog Tryd.f4 (OpenSpec.ofChange Rows.fnBytesDecimalWidthSpec) false w args)
      (Rows.fnBytesDecimalWidthSpec.post enc Tryd.prog Tryd.f4 false true false false) := by
  refine returnsInHanded_of_change_and (C := Tryd.checked) (X := fun w _ => laidMetH Tryd.prog Rows.fnBytesDecimalWidthRow.laid w) (fun _ _ _ hh h => h.of_heap hh) kOwn started (by kernel_rfl) Tryd.func4
    (ChangeSpec.witness_shaped (enc := enc) (C := Tryd.checked) (os := os) (X := fun w _ => laidMetH Tryd.prog Rows.fnBytesDecimalWidthRow.laid w) false (World.laidAll Tryd.prog os Rows.fnBytesDecimalWidthRow.laid) #[.slice none 0 0, .int .i32 0, .int .i64 0, .bool false, .int .i64 0, .bool false, .bool false, .bool false, .bool false] 8 (World.laidAll_os _ _ _)
      (World.shaped_of_ZipB (by kernel_rfl) (by kernel_rfl)) (by kernel_rfl) (by kernel_rfl) (by kernel_rfl)
      (by rw [MakeChecks.laidMetH_plain _ _ _ (by kernel_rfl)]; exact laidMet_laidAll _ (by kernel_rfl) (by kernel_rfl))) ?_
  intro W base args ds gs before hval0 hW _ _ hL _
  exact contract H enc W base args ds gs before hval0 hW hL
theorem said : Rows.FnBytesDecimalWidthSaid :=
  OpenClaim.holds_of_wide 4 Tryd.f4 rfl rfl rfl rfl rfl rfl rfl ⟨rfl, rfl, rfl, rfl, rfl⟩ rfl rfl rfl rfl rfl (by kernel_rfl) Tryd.func4 (by kernel_rfl)
    (of_decide_eq_true (by kernel_rfl)) (by unfold Func.isWrapper; first | (rw [if_pos (by decide +kernel)]; kernel_rfl) | (rw [if_neg (by decide +kernel)]; exact ⟨rfl, rfl⟩))
    (fun os started H enc _ => lifted os started H enc)
theorem plain (f : FuncId) (fn : Func) (hf : Tryd.pinned.checked.prog.funcNamed "github.com/d5/tengo/v2/n002_97.FnBytesDecimalWidth" = some f) (hfn : Tryd.pinned.checked.prog.funcs[f]? = some fn) :
    false = Tryd.pinned.checked.prog.looks [] ∧ ∀ (j : Nat) t, fn.params[j]? = some t → Tryd.pinned.checked.prog.wantsStandIn t = false := by
  obtain rfl : f = 4 := Option.some.inj ((show Tryd.prog.funcNamed "github.com/d5/tengo/v2/n002_97.FnBytesDecimalWidth" = some 4 by kernel_rfl).symm.trans hf) |>.symm
  obtain rfl : fn = Tryd.f4 := (Option.some.inj (Tryd.func4.symm.trans hfn)).symm
  refine ⟨by kernel_rfl, fun j t ht => ?_⟩
  have hall : (Tryd.f4.params.toList.all fun u => !Tryd.prog.wantsStandIn u) = true := by kernel_rfl
  have hm : t ∈ Tryd.f4.params.toList := by simpa using Array.mem_of_getElem? ht
  exact (show Tryd.prog.wantsStandIn t = false by simpa using List.all_eq_true.1 hall t hm)
theorem card : Rows.FnBytesDecimalWidthCardSaid :=
  Claim7.holds_tied_plain_at .later [] _ _ _ _ said (fun _ h => by cases h) (by kernel_rfl) (fun _ h => by cases h) fnBytesDecimalWidth_row_tie rfl ⟨rfl, rfl⟩ (by kernel_rfl) rfl plain (by kernel_rfl)
end Go.Proofs.YtohcajfgmgpoeaaDoor.fnBytesDecimalWidth
