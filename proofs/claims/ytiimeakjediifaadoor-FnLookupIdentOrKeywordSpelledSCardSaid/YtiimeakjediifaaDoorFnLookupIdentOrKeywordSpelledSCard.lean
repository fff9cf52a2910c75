/-
  FnLookupIdentOrKeywordSpelledS, its card: for every string s, Lookup(s) is Ident, or a keyword whose String is exactly s. Conditions: none; the listed tables are tied to the program's text by the given tie.
-/
import Derived.Test.YtiimeakjediifaaDoorLookLaws
import Derived.Test.YtiimeakjediifaaDoorCards
import Derived.Test.YtiimeakjediifaaDoorTie
namespace Go.Proofs.YtiimeakjediifaaDoor.fnLookupIdentOrKeywordSpelledS
open Go.ChangeShapes Go.WideShapes Go.ChangeAt Go.RowKit
open Go.WideMaps Go.WideElems
open Go.ChangeMaps (open_string)
theorem fits (H : Type) (ds gs : List (DataW H)) (h1 : ds.length = Tryd.f5.params.toList.length) (h2 : gs.length = Rows.fnLookupIdentOrKeywordSpelledSSpec.vars.length) :
    Rows.fnLookupIdentOrKeywordSpelledSSpec.fn H (ds ++ gs) = { results := [.lit (.bool true)], args := ds, vars := gs } := by
  rw [Tryd.params5] at h1
  have h1' : ds.length = 1 := h1
  have h2' : gs.length = 1 := h2
  match ds, gs, h1', h2' with
  | [d0], [g0], _, _ => rfl
set_option maxHeartbeats 1000000 in
theorem contract (H : Type) (enc : TypeId × Value → H) (W : World) (base : Nat) (args : Array Value) (ds gs : List (DataW H)) (before : List MemPlace)
    (hval : ∀ (j : Nat) t v, Tryd.f5.params[j]? = some t → args[j]? = some v → Value.okWide Tryd.prog W .any base t v)
    (hW : DataW.Whole enc Tryd.prog Tryd.f5.params.toList Rows.fnLookupIdentOrKeywordSpelledSSpec.vars false W args.toList ds gs before) (hL : laidMetH Tryd.prog Rows.fnLookupIdentOrKeywordSpelledSRow.laid W) :
    Calls Tryd.prog 5 args W fun e W' => ∃ v, e = .returned v ∧ Rows.fnLookupIdentOrKeywordSpelledSSpec.post enc Tryd.prog Tryd.f5 false true false false W args v W' := by
  have hW0 := hW
  obtain ⟨p, q, hA0, hV, rfl, hfz, hnd⟩ := hW
  have hA : DataW.TrodAll enc Tryd.prog W 0 (fun _ => true) true Tryd.f5.params.toList args.toList ds p := hA0
  rw [Tryd.params5] at hA hval
  obtain ⟨v0, vs0, d0, ds0, p0, q0, hargs, rfl, rfl, h0, r0⟩ := trodAll_cons hA
  obtain ⟨rfl, rfl, rfl⟩ := trodAll_nil r0
  obtain rfl : args = #[v0] := by cases args; simp_all
  obtain ⟨a0, rfl, rfl, rfl, w0⟩ := open_string Tryd.underlying9 (hval 0 9 v0 rfl rfl) h0
  clear hA0
  obtain ⟨l, rfl⟩ : ∃ l : List UInt8, a0 = ⟨l.toArray⟩ := ⟨a0.data.toList, by simp⟩
  have hl : l.length ≤ 9223372036854775807 := by simpa [maxLen, ByteArray.size] using w0
  refine (spelled_law l W hl (tokWorld_of_laid hL)).mono fun e W' ⟨he, hg⟩ => ?_
  subst he
  exact ⟨_, rfl, law_post kLaidOut (by kernel_rfl) (by kernel_rfl) (by rfl) Tryd.underlying4 (fits H) hW0 hg⟩
theorem laid_met (os : Os) : laidMet Tryd.prog Rows.fnLookupIdentOrKeywordSpelledSRow.laid ((laidWorld os).forCall (fun _ _ => 0) ⟨#[], #[.string ByteArray.empty], []⟩).memory :=
  laidMet_of_run' 8 (by kernel_rfl) (by kernel_rfl)
theorem reads (os : Os) {H : Type} (enc : TypeId × Value → H) : ∃ x, DataW.whole enc Tryd.prog ((laidWorld os).forCall (fun _ _ => 0) ⟨#[], #[.string ByteArray.empty], []⟩).memory Tryd.f5.params.toList Rows.fnLookupIdentOrKeywordSpelledSSpec.vars false (#[.string ByteArray.empty] : Array Value).toList 8 = some x :=
  Option.isSome_iff_exists.1 (by kernel_rfl)
set_option maxRecDepth 100000 in
theorem lifted (os : Os) (started : os.Started) (H : Type) (enc : TypeId × Value → H) (F : Stop.Interp) :
    ReturnsInHanded {} Tryd.checked os 5 .any ((OpenSpec.ofChange Rows.fnLookupIdentOrKeywordSpelledSSpec).preRow enc Tryd.prog Tryd.f5 Rows.fnLookupIdentOrKeywordSpelledSRow.domain false Rows.fnLookupIdentOrKeywordSpelledSRow.laid) (((OpenSpec.ofChange Rows.fnLookupIdentOrKeywordSpelledSSpec).at F).post enc Tryd.prog Tryd.f5 false true false false) := by
  obtain ⟨x, hx⟩ := reads os enc
  refine returnsInHanded_of_row (C := Tryd.checked) (s := (OpenSpec.ofChange Rows.fnLookupIdentOrKeywordSpelledSSpec)) kOwn started (by kernel_rfl) Tryd.func5
    (witness_row_at (enc := enc) (C := Tryd.checked) false (laidWorld os) #[.string ByteArray.empty] rfl (by kernel_rfl) (by kernel_rfl) (by kernel_rfl)
      (OpenSpec.preRow_of_cond 8 hx rfl (fun k hk => by cases hk) (by kernel_rfl) (laid_met os))) ?_
  intro W base args ds gs before hval hW _ hcond hsz hL _ _
  exact contract H enc W base args ds gs before hval hW hL
theorem said : Rows.FnLookupIdentOrKeywordSpelledSSaid :=
  OpenClaim.holds_of_cond 5 Tryd.f5 rfl rfl rfl rfl rfl rfl rfl ⟨rfl, rfl, rfl, rfl, rfl⟩ rfl rfl rfl rfl rfl (by kernel_rfl) Tryd.func5 (by kernel_rfl)
    (of_decide_eq_true (by kernel_rfl)) (by unfold Func.isWrapper; first | (rw [if_pos (by decide +kernel)]; kernel_rfl) | (rw [if_neg (by decide +kernel)]; exact ⟨rfl, rfl⟩))
    (fun os started H enc _ F => by rw [OpenClaim.pre_eq_preRow]; exact lifted os started H enc F)
theorem plain (f : FuncId) (fn : Func) (hf : Tryd.pinned.checked.prog.funcNamed "github.com/d5/tengo/v2/n002_28.FnLookupIdentOrKeywordSpelledS" = some f) (hfn : Tryd.pinned.checked.prog.funcs[f]? = some fn) :
    false = Tryd.pinned.checked.prog.looks [] ∧ ∀ (j : Nat) t, fn.params[j]? = some t → Tryd.pinned.checked.prog.wantsStandIn t = false := by
  obtain rfl : f = 5 := Option.some.inj ((show Tryd.prog.funcNamed "github.com/d5/tengo/v2/n002_28.FnLookupIdentOrKeywordSpelledS" = some 5 by kernel_rfl).symm.trans hf) |>.symm
  obtain rfl : fn = Tryd.f5 := (Option.some.inj (Tryd.func5.symm.trans hfn)).symm
  refine ⟨by kernel_rfl, fun j t ht => ?_⟩
  rw [Tryd.params5] at ht
  have hm := Array.mem_of_getElem? ht
  simp only [List.mem_cons, List.not_mem_nil, or_false, List.mem_toArray] at hm
  subst hm
  exact (show Tryd.prog.wantsStandIn 9 = false by kernel_rfl)
theorem card : Rows.FnLookupIdentOrKeywordSpelledSCardSaid :=
  Claim7.holds_tied_plain_at .later [] _ _ _ _ said (fun _ h => by cases h) (by kernel_rfl) (fun _ h => by cases h) fnLookupIdentOrKeywordSpelledS_row_tie rfl ⟨rfl, rfl⟩ (by kernel_rfl) rfl plain (by kernel_rfl)
end Go.Proofs.YtiimeakjediifaaDoor.fnLookupIdentOrKeywordSpelledS
