/-
  FnMapCopyEqualsOriginalExactly: the copy of a Map equals it in both directions, is falsy exactly when it is empty, and equals neither the changed nor the shortened map. Conditions: none (beyond the law's own bounds it says true at once).
-/
import Derived.Test.YthlhfhcjfikflaaLawC84
namespace Go.Proofs.Ythlhfhcjfikflaa.fnMapCopyEqualsOriginalExactly
open Go.ChangeShapes Go.WideShapes Go.ChangeAt Go.RowKit
open Go.WideMaps Go.WideElems
open Go.ChangeMaps (open_string)
set_option linter.unusedVariables false
theorem fits (H : Type) (ds gs : List (DataW H)) (h1 : ds.length = Try.f5.params.toList.length) (h2 : gs.length = Rows.fnMapCopyEqualsOriginalExactlySpec.vars.length) :
    Rows.fnMapCopyEqualsOriginalExactlySpec.fn H (ds ++ gs) = { results := [.lit (.bool true)], args := ds, vars := gs } := by
  rw [Try.params5] at h1
  have h1' : ds.length = 3 := h1
  have h2' : gs.length = 0 := h2
  match ds, gs, h1', h2' with
  | [d0, d1, d2], [], _, _ => rfl
set_option maxHeartbeats 1000000 in
theorem contract (H : Type) (enc : TypeId × Value → H) (W : World) (base : Nat) (args : Array Value) (ds gs : List (DataW H)) (before : List MemPlace)
    (hval : ∀ (j : Nat) t v, Try.f5.params[j]? = some t → args[j]? = some v → Value.okWide Try.prog W .any base t v)
    (hW : DataW.Whole enc Try.prog Try.f5.params.toList Rows.fnMapCopyEqualsOriginalExactlySpec.vars false W args.toList ds gs before) (hL : laidMetH Try.prog Rows.fnMapCopyEqualsOriginalExactlyRow.laid W) :
    Calls Try.prog 5 args W fun e W' => ∃ v, e = .returned v ∧ Rows.fnMapCopyEqualsOriginalExactlySpec.post enc Try.prog Try.f5 false true false false W args v W' := by
  have hW0 := hW
  obtain ⟨p, q, hA0, hV, rfl, hfz, hnd⟩ := hW
  have hA : DataW.TrodAll enc Try.prog W 0 (fun _ => true) true Try.f5.params.toList args.toList ds p := hA0
  rw [Try.params5] at hA hval
  obtain ⟨v0, vs0, d0, ds0, p0, q0, hargs, rfl, rfl, h0, r0⟩ := trodAll_cons hA
  obtain ⟨v1, vs1, d1, ds1, p1, q1, rfl, rfl, rfl, h1, r1⟩ := trodAll_cons r0
  obtain ⟨v2, vs2, d2, ds2, p2, q2, rfl, rfl, rfl, h2, r2⟩ := trodAll_cons r1
  obtain ⟨rfl, rfl, rfl⟩ := trodAll_nil r2
  obtain rfl : args = #[v0, v1, v2] := by cases args; simp_all
  obtain ⟨o0, c0, a0, rfl, bl0, bm0, bs0, bn0, br0⟩ := open_strz (hval 0 22 v0 rfl rfl) h0 (by have := hW0.lt; intro x hx; exact this x (by simp [hx]))
  obtain ⟨o1, c1, a1, rfl, bl1, bm1, bs1, bn1, br1⟩ := open_intz (hval 1 23 v1 rfl rfl) h1 (by have := hW0.lt; intro x hx; exact this x (by simp [hx]))
  obtain ⟨a2, rfl, rfl, rfl⟩ := open_bool Try.underlying4 (hval 2 4 v2 rfl rfl) h2
  clear hA0
  have hl0 : a0.length ≤ 9223372036854775807 := by simp only [maxLen] at bm0; omega
  have hl1 : a1.length ≤ 9223372036854775807 := by simp only [maxLen] at bm1; omega
  refine (law_cp o0 o1 a0.length a1.length c0 c1 a0 a1 a2 W rfl rfl hl0 hl1 bs0 bs1 bn0 bn1 br0 br1).mono fun e W' ⟨he, hg⟩ => ?_
  subst he
  exact ⟨_, rfl, law_post kLaidOut (by kernel_rfl) (by kernel_rfl) (by rfl) Try.underlying4 (fits H) hW0 hg⟩
theorem laid_met (os : Os) : laidMet Try.prog Rows.fnMapCopyEqualsOriginalExactlyRow.laid (((World.holding Try.prog os ⟨#[], #[], []⟩)).forCall (fun _ _ => 0) ⟨#[], #[.slice none 0 0, .slice none 0 0, .bool false], []⟩).memory :=
  laidMet_of_run' 8 (by kernel_rfl) (by kernel_rfl)
theorem reads (os : Os) {H : Type} (enc : TypeId × Value → H) : ∃ x, DataW.whole enc Try.prog (((World.holding Try.prog os ⟨#[], #[], []⟩)).forCall (fun _ _ => 0) ⟨#[], #[.slice none 0 0, .slice none 0 0, .bool false], []⟩).memory Try.f5.params.toList Rows.fnMapCopyEqualsOriginalExactlySpec.vars false (#[.slice none 0 0, .slice none 0 0, .bool false] : Array Value).toList 8 = some x :=
  Option.isSome_iff_exists.1 (by kernel_rfl)
set_option maxRecDepth 100000 in
theorem lifted (os : Os) (started : os.Started) (H : Type) (enc : TypeId × Value → H) (F : Stop.Interp) :
    ReturnsInHanded {} Try.checked os 5 .any ((OpenSpec.ofChange Rows.fnMapCopyEqualsOriginalExactlySpec).preRow enc Try.prog Try.f5 Rows.fnMapCopyEqualsOriginalExactlyRow.domain false Rows.fnMapCopyEqualsOriginalExactlyRow.laid) (((OpenSpec.ofChange Rows.fnMapCopyEqualsOriginalExactlySpec).at F).post enc Try.prog Try.f5 false true false false) := by
  obtain ⟨x, hx⟩ := reads os enc
  refine returnsInHanded_of_row (C := Try.checked) (s := (OpenSpec.ofChange Rows.fnMapCopyEqualsOriginalExactlySpec)) kOwn started (by kernel_rfl) Try.func5
    (witness_row_at (enc := enc) (C := Try.checked) false ((World.holding Try.prog os ⟨#[], #[], []⟩)) #[.slice none 0 0, .slice none 0 0, .bool false] rfl (by kernel_rfl) (by kernel_rfl) (by kernel_rfl)
      (OpenSpec.preRow_of_cond 8 hx rfl (fun k hk => by cases hk) (by kernel_rfl) (laid_met os))) ?_
  intro W base args ds gs before hval hW _ hcond hsz hL _ _
  exact contract H enc W base args ds gs before hval hW hL
theorem said : Rows.FnMapCopyEqualsOriginalExactlySaid :=
  OpenClaim.holds_of_cond 5 Try.f5 rfl rfl rfl rfl rfl rfl rfl ⟨rfl, rfl, rfl, rfl, rfl⟩ rfl rfl rfl rfl rfl (by kernel_rfl) Try.func5 (by kernel_rfl)
    (of_decide_eq_true (by kernel_rfl)) (by unfold Func.isWrapper; first | (rw [if_pos (by decide +kernel)]; kernel_rfl) | (rw [if_neg (by decide +kernel)]; exact ⟨rfl, rfl⟩))
    (fun os started H enc _ F => by rw [OpenClaim.pre_eq_preRow]; exact lifted os started H enc F)
end Go.Proofs.Ythlhfhcjfikflaa.fnMapCopyEqualsOriginalExactly
