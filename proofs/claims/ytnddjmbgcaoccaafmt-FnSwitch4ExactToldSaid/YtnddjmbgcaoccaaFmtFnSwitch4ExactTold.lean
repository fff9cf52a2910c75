/-
  FnSwitch4Exact, its told and tied card: for every source of at most 65536 bytes, every number of steps up to 65536 and all tokens, switch4 answers exactly by the text under the scanner. Conditions: none; the two listed tables are tied to the program's text; fmt's text is told by the kit's own function, and is not reached.
-/
import Derived.Test.YtnddjmbgcaoccaaFmtSwL4
import Derived.Test.YtnddjmbgcaoccaaFmtU8Laid
import Derived.Stop.JoinedTold
import Derived.SevenToldRow
import Derived.Test.YtnddjmbgcaoccaaFmtCards
import Derived.Test.YtnddjmbgcaoccaaFmtTie
import Derived.Lay
import Derived.SevenTiedAt
namespace Go.Proofs.YtnddjmbgcaoccaaFmt.fnSwitch4Exact
open Go.ChangeShapes Go.WideShapes Go.ChangeAt Go.RowKit
open Go.WideMaps Go.WideElems
open Go.ChangeMaps (open_string)
set_option linter.unusedVariables false
theorem fits (H : Type) (ds gs : List (DataW H)) (h1 : ds.length = Tryf.f5.params.toList.length) (h2 : gs.length = Rows.fnSwitch4ExactSpec.vars.length) :
    Rows.fnSwitch4ExactSpec.fn H (ds ++ gs) = { results := [.lit (.bool true)], args := ds, vars := gs } := by
  rw [Tryf.params5] at h1
  have h1' : ds.length = 7 := h1
  have h2' : gs.length = 0 := h2
  match ds, gs, h1', h2' with
  | [d0, d1, d2, d3, d4, d5, d6], [], _, _ => rfl
set_option maxHeartbeats 1000000 in
theorem contract (H : Type) (enc : TypeId × Value → H) (W : World) (base : Nat) (args : Array Value) (ds gs : List (DataW H)) (before : List MemPlace)
    (hval : ∀ (j : Nat) t v, Tryf.f5.params[j]? = some t → args[j]? = some v → Value.okWide Tryf.prog W .any base t v)
    (hW : DataW.Whole enc Tryf.prog Tryf.f5.params.toList Rows.fnSwitch4ExactSpec.vars false W args.toList ds gs before) (hL : laidMetH Tryf.prog Rows.fnSwitch4ExactRow.laid W) :
    Calls Tryf.prog 5 args W fun e W' => ∃ v, e = .returned v ∧ Rows.fnSwitch4ExactSpec.post enc Tryf.prog Tryf.f5 false true false false W args v W' := by
  have hW0 := hW
  obtain ⟨p, q, hA0, hV, rfl, hfz, hnd⟩ := hW
  have hA : DataW.TrodAll enc Tryf.prog W 0 (fun _ => true) true Tryf.f5.params.toList args.toList ds p := hA0
  rw [Tryf.params5] at hA hval
  obtain ⟨v0, vs0, d0, ds0, p0, q0, hargs, rfl, rfl, h0, r0⟩ := trodAll_cons hA
  obtain ⟨v1, vs1, d1, ds1, p1, q1, rfl, rfl, rfl, h1, r1⟩ := trodAll_cons r0
  obtain ⟨v2, vs2, d2, ds2, p2, q2, rfl, rfl, rfl, h2, r2⟩ := trodAll_cons r1
  obtain ⟨v3, vs3, d3, ds3, p3, q3, rfl, rfl, rfl, h3, r3⟩ := trodAll_cons r2
  obtain ⟨v4, vs4, d4, ds4, p4, q4, rfl, rfl, rfl, h4, r4⟩ := trodAll_cons r3
  obtain ⟨v5, vs5, d5, ds5, p5, q5, rfl, rfl, rfl, h5, r5⟩ := trodAll_cons r4
  obtain ⟨v6, vs6, d6, ds6, p6, q6, rfl, rfl, rfl, h6, r6⟩ := trodAll_cons r5
  obtain ⟨rfl, rfl, rfl⟩ := trodAll_nil r6
  obtain rfl : args = #[v0, v1, v2, v3, v4, v5, v6] := by cases args; simp_all
  obtain ⟨s0, rfl, rfl, rfl, w0⟩ := open_string Tryf.underlying9 (hval 0 9 v0 rfl rfl) h0
  obtain ⟨a0, rfl⟩ : ∃ l : List UInt8, s0 = ⟨l.toArray⟩ := ⟨s0.data.toList, by simp⟩
  have b0 : a0.length ≤ 9223372036854775807 := by simpa [maxLen, ByteArray.size] using w0
  obtain ⟨a1, rfl, rfl, rfl, w1⟩ := open_int Tryf.underlying3 (hval 1 3 v1 rfl rfl) h1
  have b1 := w1
  simp only [Lit.wf, IntKind.min, IntKind.max, IntKind.signed, IntKind.bits, Bool.and_eq_true, decide_eq_true_eq] at b1
  obtain ⟨a2, rfl, rfl, rfl, w2⟩ := open_int Tryf.underlying3 (hval 2 3 v2 rfl rfl) h2
  have b2 := w2
  simp only [Lit.wf, IntKind.min, IntKind.max, IntKind.signed, IntKind.bits, Bool.and_eq_true, decide_eq_true_eq] at b2
  obtain ⟨a3, rfl, rfl, rfl, w3⟩ := open_int Tryf.underlying3 (hval 3 3 v3 rfl rfl) h3
  have b3 := w3
  simp only [Lit.wf, IntKind.min, IntKind.max, IntKind.signed, IntKind.bits, Bool.and_eq_true, decide_eq_true_eq] at b3
  obtain ⟨a4, rfl, rfl, rfl, w4⟩ := open_int Tryf.underlying21 (hval 4 21 v4 rfl rfl) h4
  have b4 := w4
  simp only [Lit.wf, IntKind.min, IntKind.max, IntKind.signed, IntKind.bits, Bool.and_eq_true, decide_eq_true_eq] at b4
  obtain ⟨a5, rfl, rfl, rfl, w5⟩ := open_int Tryf.underlying3 (hval 5 3 v5 rfl rfl) h5
  have b5 := w5
  simp only [Lit.wf, IntKind.min, IntKind.max, IntKind.signed, IntKind.bits, Bool.and_eq_true, decide_eq_true_eq] at b5
  obtain ⟨a6, rfl, rfl, rfl, w6⟩ := open_int Tryf.underlying3 (hval 6 3 v6 rfl rfl) h6
  have b6 := w6
  simp only [Lit.wf, IntKind.min, IntKind.max, IntKind.signed, IntKind.bits, Bool.and_eq_true, decide_eq_true_eq] at b6
  clear hA0
  have hL' : laidMet Tryf.prog Rows.fnSwitch4ExactRow.laid W := by rw [MakeChecks.laidMetH_plain _ _ _ (by kernel_rfl)] at hL; exact hL
  have hAcc := laid_reads hL' (.head _)
  have hFir := laid_reads hL' (.tail _ (.head _))
  have hT := u8tabs_of hFir hAcc
  have hG := u8lt_of hFir hAcc
  refine (sl4_law a0 a1 W a2 a3 a4 a5 a6 b0 b1.1 b1.2 b4.1 b4.2 hT hG).mono fun e W' ⟨he, hg⟩ => ?_
  subst he
  exact ⟨_, rfl, law_post kLaidOut (by kernel_rfl) (by kernel_rfl) (by rfl) Tryf.underlying4 (fits H) hW0 hg⟩
theorem reads (os : Os) {H : Type} (enc : TypeId × Value → H) : ∃ x, DataW.whole enc Tryf.prog ((World.laidAll Tryf.prog os Rows.fnSwitch4ExactRow.laid).forCall (fun _ _ => 0) ⟨#[], #[.string ByteArray.empty, .int .i64 0, .int .i64 0, .int .i64 0, .int .i32 0, .int .i64 0, .int .i64 0], []⟩).memory Tryf.f5.params.toList Rows.fnSwitch4ExactSpec.vars false (#[.string ByteArray.empty, .int .i64 0, .int .i64 0, .int .i64 0, .int .i32 0, .int .i64 0, .int .i64 0] : Array Value).toList 8 = some x :=
  Option.isSome_iff_exists.1 (by kernel_rfl)
set_option maxRecDepth 100000 in
theorem wit (os : Os) {H : Type} (enc : TypeId × Value → H) (F : Stop.Interp) : ∃ (w : World) (tape : Tape) (i : Input), w.os = os ∧ (w.forCall tape i).Shaped Tryf.checked.prog ∧ i.vars = [] ∧ Input.okWide Tryf.checked.prog (w.forCall tape i) .any w.heap.size 5 i ∧
      (OpenSpec.ofChange Rows.fnSwitch4ExactSpec).preRow enc Tryf.checked.prog Tryf.f5 [] false Rows.fnSwitch4ExactRow.laid (w.forCall tape i).memory i.args ∧ ({} : Assume).holds Tryf.checked.prog (lone (Frame.enter Tryf.checked.prog 5 i.args .normal) [] (w.forCall tape i)) ∧ F.answers tape := by
  obtain ⟨x, hx⟩ := reads os enc
  have hok : Input.okWideB Tryf.prog ((World.laidAll Tryf.prog os Rows.fnSwitch4ExactRow.laid).forCall (fun _ _ => 0) ⟨#[], #[.string ByteArray.empty, .int .i64 0, .int .i64 0, .int .i64 0, .int .i32 0, .int .i64 0, .int .i64 0], []⟩) 5 ⟨#[], #[.string ByteArray.empty, .int .i64 0, .int .i64 0, .int .i64 0, .int .i32 0, .int .i64 0, .int .i64 0], []⟩ = true := by kernel_rfl
  have hrow : (OpenSpec.ofChange Rows.fnSwitch4ExactSpec).preRow enc Tryf.prog Tryf.f5 [] false Rows.fnSwitch4ExactRow.laid ((World.laidAll Tryf.prog os Rows.fnSwitch4ExactRow.laid).forCall (fun _ _ => 0) ⟨#[], #[.string ByteArray.empty, .int .i64 0, .int .i64 0, .int .i64 0, .int .i32 0, .int .i64 0, .int .i64 0], []⟩).memory #[.string ByteArray.empty, .int .i64 0, .int .i64 0, .int .i64 0, .int .i32 0, .int .i64 0, .int .i64 0] :=
    OpenSpec.preRow_of_cond 8 hx rfl (fun k hk => by cases hk) (by kernel_rfl) (by rw [MakeChecks.laidMetH_plain _ _ _ (by kernel_rfl)]; exact laidMet_laidAll _ (by kernel_rfl) (by kernel_rfl))
  exact ⟨(World.laidAll Tryf.prog os Rows.fnSwitch4ExactRow.laid), F.over fun _ _ => 0, ⟨#[], #[.string ByteArray.empty, .int .i64 0, .int .i64 0, .int .i64 0, .int .i32 0, .int .i64 0, .int .i64 0], []⟩, World.laidAll_os _ _ _, World.shaped_of_ZipB (w := (World.laidAll Tryf.prog os Rows.fnSwitch4ExactRow.laid).forCall (fun _ _ => 0) ⟨#[], #[.string ByteArray.empty, .int .i64 0, .int .i64 0, .int .i64 0, .int .i32 0, .int .i64 0, .int .i64 0], []⟩) (by kernel_rfl) (by kernel_rfl), (Input.okWide_of_okWideB (base := 0) hok).1, (Input.okWide_of_okWideB hok).2, hrow, by
    simp only [Assume.holds]
    exact ⟨by simp, by simp, by simp, by simp, by simp⟩, F.over_answers _⟩
theorem lifted (os : Os) (started : os.Started) (H : Type) (enc : TypeId × Value → H) :
    ReturnsInTold none {} Tryf.checked os 5 .any Input.okWide ((OpenSpec.ofChange Rows.fnSwitch4ExactSpec).preRow enc Tryf.prog Tryf.f5 [] false Rows.fnSwitch4ExactRow.laid) (fun F => ((OpenSpec.ofChange Rows.fnSwitch4ExactSpec).at F).post enc Tryf.prog Tryf.f5 false true false false) (aloneAtReturn Tryf.prog) nothingAlways := by
  refine returnsInTold_of_row (C := Tryf.checked) (s := (OpenSpec.ofChange Rows.fnSwitch4ExactSpec)) (by kernel_rfl) kOwn started (by kernel_rfl) Tryf.func5 (wit os enc) ?_
  intro F W base args ds gs before _ hF hval hW _ _ _ hL _
  exact contract H enc W base args ds gs before hval hW hL
theorem stopNames : Tryf.pinned.checked.prog.stops = ["fmt.Sprintf"] := by kernel_rfl
theorem stopKnobs : Tryf.pinned.checked.prog.stopKnobs = [] := by kernel_rfl
theorem quiet (os : Os) : Stop.quiet Tryf.pinned.checked.prog os := by
  intro k hk
  rw [stopKnobs] at hk
  cases hk
set_option maxRecDepth 100000 in
theorem told : Rows.FnSwitch4ExactToldSaid :=
  Claim7.holds_of_told_tied_any_at .later 5 Tryf.f5 "fmt.Sprintf" [] [] _ _ _ _ _ (by kernel_rfl) rfl rfl rfl kLaidOut (by kernel_rfl) rfl ⟨rfl, rfl, rfl, rfl, rfl, rfl, rfl⟩ rfl rfl (by kernel_rfl) (by kernel_rfl) Tryf.func5 (by kernel_rfl)
    (of_decide_eq_true (by kernel_rfl)) (by unfold Func.isWrapper; first | (rw [if_pos (by decide +kernel)]; kernel_rfl) | (rw [if_neg (by decide +kernel)]; exact ⟨rfl, rfl⟩)) stopNames.symm rfl stopKnobs.symm (by kernel_rfl)
    (by kernel_rfl) (by kernel_rfl) (by kernel_rfl) (by kernel_rfl) (by kernel_rfl) (by kernel_rfl) (by kernel_rfl) (by kernel_rfl) (by kernel_rfl) rfl (by kernel_rfl) rfl rfl
    rfl rfl
    rfl (by kernel_rfl) (by kernel_rfl) (by kernel_rfl) (by decide) (by kernel_rfl) fnSwitch4Exact_row_tie
    (OpenClaim.moreEntering_of (by kernel_rfl) (by kernel_rfl) (by kernel_rfl) (by kernel_rfl) (by kernel_rfl) (by kernel_rfl) (by kernel_rfl) (by kernel_rfl) (by kernel_rfl) (by kernel_rfl))
    ⟨_, WideRow.started_initial, quiet _⟩
    (fun os started _ H enc _ => lifted os started H enc)
end Go.Proofs.YtnddjmbgcaoccaaFmt.fnSwitch4Exact
