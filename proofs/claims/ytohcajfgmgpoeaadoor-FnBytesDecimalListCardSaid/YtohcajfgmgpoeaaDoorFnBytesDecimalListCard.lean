/-
  FnBytesDecimalList, its card: the decimals of the bytes in brackets at v and d, nothing at a verb it does not know. Conditions: none beyond the law's own; the listed variables are tied to the program's text by the given tie.
-/
import Derived.Test.YtohcajfgmgpoeaaDoorLaw97
import Derived.Test.YtohcajfgmgpoeaaDoorVarInt
import Derived.Test.YtohcajfgmgpoeaaDoorCards
import Derived.Test.YtohcajfgmgpoeaaDoorTie
import Derived.Lay
import Derived.SevenTiedAt
namespace Go.Proofs.YtohcajfgmgpoeaaDoor.fnBytesDecimalList
open Go.ChangeShapes Go.WideShapes Go.ChangeAt Go.RowKit
open Go.WideMaps Go.WideElems
open Go.ChangeMaps (open_string)
set_option linter.unusedVariables false
set_option maxRecDepth 100000
theorem fits (H : Type) (ds gs : List (DataW H)) (h1 : ds.length = Tryd.f3.params.toList.length) (h2 : gs.length = Rows.fnBytesDecimalListSpec.vars.length) :
    Rows.fnBytesDecimalListSpec.fn H (ds ++ gs) = { results := [.lit (.bool true)], args := ds, vars := gs } := by
  rw [Tryd.params3] at h1
  have h1' : ds.length = 3 := h1
  have h2' : gs.length = 2 := h2
  match ds, gs, h1', h2' with
  | [d0, d1, d2], [g0, g1], _, _ => rfl
set_option maxHeartbeats 1000000 in
theorem contract (H : Type) (enc : TypeId × Value → H) (W : World) (base : Nat) (args : Array Value) (ds gs : List (DataW H)) (before : List MemPlace)
    (hval : ∀ (j : Nat) t v, Tryd.f3.params[j]? = some t → args[j]? = some v → Value.okWide Tryd.prog W .any base t v)
    (hW : DataW.Whole enc Tryd.prog Tryd.f3.params.toList Rows.fnBytesDecimalListSpec.vars false W args.toList ds gs before) (hL : laidMetH Tryd.prog Rows.fnBytesDecimalListRow.laid W) :
    Calls Tryd.prog 3 args W fun e W' => ∃ v, e = .returned v ∧ Rows.fnBytesDecimalListSpec.post enc Tryd.prog Tryd.f3 false true false false W args v W' := by
  have hW0 := hW
  obtain ⟨p, q, hA0, hV, rfl, hfz, hnd⟩ := hW
  have hA : DataW.TrodAll enc Tryd.prog W 0 (fun _ => true) true Tryd.f3.params.toList args.toList ds p := hA0
  rw [Tryd.params3] at hA hval
  obtain ⟨v0, vs0, d0, ds0, p0, q0, hargs, rfl, rfl, h0, r0⟩ := trodAll_cons hA
  obtain ⟨v1, vs1, d1, ds1, p1, q1, rfl, rfl, rfl, h1, r1⟩ := trodAll_cons r0
  obtain ⟨v2, vs2, d2, ds2, p2, q2, rfl, rfl, rfl, h2, r2⟩ := trodAll_cons r1
  obtain ⟨rfl, rfl, rfl⟩ := trodAll_nil r2
  obtain rfl : args = #[v0, v1, v2] := by cases args; simp_all
  obtain ⟨o0, c0, a0, rfl, bl0, bm0, bs0, bn0⟩ := open_bytes (hval 0 22 v0 rfl rfl) h0 (by have := hW0.lt; intro x hx; exact this x (by simp [hx]))
  obtain ⟨a1, rfl, rfl, rfl, w1⟩ := open_int Tryd.underlying21 (hval 1 21 v1 rfl rfl) h1
  have b1 := w1
  simp only [Lit.wf, IntKind.min, IntKind.max, IntKind.signed, IntKind.bits, Bool.and_eq_true, decide_eq_true_eq] at b1
  obtain ⟨s2, rfl, rfl, rfl, w2⟩ := open_string Tryd.underlying9 (hval 2 9 v2 rfl rfl) h2
  obtain ⟨a2, rfl⟩ : ∃ l : List UInt8, s2 = ⟨l.toArray⟩ := ⟨s2.data.toList, by simp⟩
  have b2 : a2.length ≤ 9223372036854775807 := by simpa [maxLen, ByteArray.size] using w2
  clear hA0
  have hL' : laidMet Tryd.prog Rows.fnBytesDecimalListRow.laid W := by rw [MakeChecks.laidMetH_plain _ _ _ (by kernel_rfl)] at hL; exact hL
  have hMx := laid_reads hL' (.tail _ (.tail _ (.head _)))
  have hM : MaxS W := int_of_reads (g := 0) (t := 3) (by kernel_rfl) (by kernel_rfl) Tryd.underlying3 hMx
  have hG := cell_lt hM
  refine (law_list o0 c0 a0 a1 a2 W bl0 bm0 bs0 bn0 b2 hM hG).mono fun e W' ⟨he, hg⟩ => ?_
  subst he
  exact ⟨_, rfl, law_post kLaidOut (by kernel_rfl) (by kernel_rfl) (by rfl) Tryd.underlying4 (fits H) hW0 hg⟩
set_option maxRecDepth 100000 in
theorem lifted (os : Os) (started : os.Started) (H : Type) (enc : TypeId × Value → H) :
    ReturnsInHanded {} Tryd.checked os 3 .any (fun w args => (Rows.fnBytesDecimalListSpec.pre enc Tryd.prog Tryd.f3 [] false w args ∧ laidMetH Tryd.prog Rows.fnBytesDecimalListRow.laid w) ∧ sizedMet enc Tryd.prog Tryd.f3 (OpenSpec.ofChange Rows.fnBytesDecimalListSpec) false w args)
      (Rows.fnBytesDecimalListSpec.post enc Tryd.prog Tryd.f3 false true false false) := by
  refine returnsInHanded_of_change_and (C := Tryd.checked) (X := fun w _ => laidMetH Tryd.prog Rows.fnBytesDecimalListRow.laid w) (fun _ _ _ hh h => h.of_heap hh) kOwn started (by kernel_rfl) Tryd.func3
    (ChangeSpec.witness_shaped (enc := enc) (C := Tryd.checked) (os := os) (X := fun w _ => laidMetH Tryd.prog Rows.fnBytesDecimalListRow.laid w) false (World.laidAll Tryd.prog os Rows.fnBytesDecimalListRow.laid) #[.slice none 0 0, .int .i32 0, .string ⟨#[]⟩] 8 (World.laidAll_os _ _ _)
      (World.shaped_of_ZipB (by kernel_rfl) (by kernel_rfl)) (by kernel_rfl) (by kernel_rfl) (by kernel_rfl)
      (by rw [MakeChecks.laidMetH_plain _ _ _ (by kernel_rfl)]; exact laidMet_laidAll _ (by kernel_rfl) (by kernel_rfl))) ?_
  intro W base args ds gs before hval0 hW _ _ hL _
  exact contract H enc W base args ds gs before hval0 hW hL
theorem said : Rows.FnBytesDecimalListSaid :=
  OpenClaim.holds_of_wide 3 Tryd.f3 rfl rfl rfl rfl rfl rfl rfl ⟨rfl, rfl, rfl, rfl, rfl⟩ rfl rfl rfl rfl rfl (by kernel_rfl) Tryd.func3 (by kernel_rfl)
    (of_decide_eq_true (by kernel_rfl)) (by unfold Func.isWrapper; first | (rw [if_pos (by decide +kernel)]; kernel_rfl) | (rw [if_neg (by decide +kernel)]; exact ⟨rfl, rfl⟩))
    (fun os started H enc _ => lifted os started H enc)
theorem plain (f : FuncId) (fn : Func) (hf : Tryd.pinned.checked.prog.funcNamed "github.com/d5/tengo/v2/n002_97.FnBytesDecimalList" = some f) (hfn : Tryd.pinned.checked.prog.funcs[f]? = some fn) :
    false = Tryd.pinned.checked.prog.looks [] ∧ ∀ (j : Nat) t, fn.params[j]? = some t → Tryd.pinned.checked.prog.wantsStandIn t = false := by
  obtain rfl : f = 3 := Option.some.inj ((show Tryd.prog.funcNamed "github.com/d5/tengo/v2/n002_97.FnBytesDecimalList" = some 3 by kernel_rfl).symm.trans hf) |>.symm
  obtain rfl : fn = Tryd.f3 := (Option.some.inj (Tryd.func3.symm.trans hfn)).symm
  refine ⟨by kernel_rfl, fun j t ht => ?_⟩
  have hall : (Tryd.f3.params.toList.all fun u => !Tryd.prog.wantsStandIn u) = true := by kernel_rfl
  have hm : t ∈ Tryd.f3.params.toList := by simpa using Array.mem_of_getElem? ht
  exact (show Tryd.prog.wantsStandIn t = false by simpa using List.all_eq_true.1 hall t hm)
theorem card : Rows.FnBytesDecimalListCardSaid :=
  Claim7.holds_tied_plain_at .later [] _ _ _ _ said (fun _ h => by cases h) (by kernel_rfl) (fun _ h => by cases h) fnBytesDecimalList_row_tie rfl ⟨rfl, rfl⟩ (by kernel_rfl) rfl plain (by kernel_rfl)
end Go.Proofs.YtohcajfgmgpoeaaDoor.fnBytesDecimalList
