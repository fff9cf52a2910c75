/-
  FnPrintTraceTwoOperandsJoinedBySpace, its told card: for every input. Conditions: none (beyond the law's own bounds it says true at once); the text of fmt is told by the kit's own function.
-/
import Derived.Test.YtbigghdoikbjlaaFmtLaw78
import Derived.Stop.JoinedTold
import Derived.SevenToldRow
import Derived.Test.YtbigghdoikbjlaaFmtCards
import Derived.Lay
import Derived.SevenTiedAt
namespace Go.Proofs.YtbigghdoikbjlaaFmt.fnPrintTraceTwoOperandsJoinedBySpace
open Go.ChangeShapes Go.WideShapes Go.ChangeAt Go.RowKit
open Go.WideMaps Go.WideElems
open Go.ChangeMaps (open_string)
set_option linter.unusedVariables false
set_option maxRecDepth 100000
theorem fits (H : Type) (ds gs : List (DataW H)) (h1 : ds.length = Tryf.f4.params.toList.length) (h2 : gs.length = Rows.fnPrintTraceTwoOperandsJoinedBySpaceSpec.vars.length) :
    Rows.fnPrintTraceTwoOperandsJoinedBySpaceSpec.fn H (ds ++ gs) = { results := [.lit (.bool true)], args := ds, vars := gs } := by
  rw [Tryf.params4] at h1
  have h1' : ds.length = 3 := h1
  have h2' : gs.length = 0 := h2
  match ds, gs, h1', h2' with
  | [d0, d1, d2], [], _, _ => rfl
set_option maxHeartbeats 1000000 in
theorem contract (H : Type) (enc : TypeId × Value → H) (W : World) (base : Nat) (args : Array Value) (ds gs : List (DataW H)) (before : List MemPlace)
    (hval : ∀ (j : Nat) t v, Tryf.f4.params[j]? = some t → args[j]? = some v → Value.okWide Tryf.prog W .any base t v)
    (hW : DataW.Whole enc Tryf.prog Tryf.f4.params.toList Rows.fnPrintTraceTwoOperandsJoinedBySpaceSpec.vars false W args.toList ds gs before) (F : Stop.Interp) (hF : F.told.answers W.tape) (hL : laidMetH Tryf.prog Rows.fnPrintTraceTwoOperandsJoinedBySpaceRow.laid W) :
    Calls Tryf.prog 4 args W fun e W' => ∃ v, e = .returned v ∧ Rows.fnPrintTraceTwoOperandsJoinedBySpaceSpec.post enc Tryf.prog Tryf.f4 false true false false W args v W' := by
  have hW0 := hW
  obtain ⟨p, q, hA0, hV, rfl, hfz, hnd⟩ := hW
  have hA : DataW.TrodAll enc Tryf.prog W 0 (fun _ => true) true Tryf.f4.params.toList args.toList ds p := hA0
  rw [Tryf.params4] at hA hval
  obtain ⟨v0, vs0, d0, ds0, p0, q0, hargs, rfl, rfl, h0, r0⟩ := trodAll_cons hA
  obtain ⟨v1, vs1, d1, ds1, p1, q1, rfl, rfl, rfl, h1, r1⟩ := trodAll_cons r0
  obtain ⟨v2, vs2, d2, ds2, p2, q2, rfl, rfl, rfl, h2, r2⟩ := trodAll_cons r1
  obtain ⟨rfl, rfl, rfl⟩ := trodAll_nil r2
  obtain rfl : args = #[v0, v1, v2] := by cases args; simp_all
  obtain ⟨a0, rfl, rfl, rfl, w0⟩ := open_int Tryf.underlying3 (hval 0 3 v0 rfl rfl) h0
  have b0 := w0
  simp only [Lit.wf, IntKind.min, IntKind.max, IntKind.signed, IntKind.bits, Bool.and_eq_true, decide_eq_true_eq] at b0
  obtain ⟨s1, rfl, rfl, rfl, w1⟩ := open_string Tryf.underlying9 (hval 1 9 v1 rfl rfl) h1
  obtain ⟨a1, rfl⟩ : ∃ l : List UInt8, s1 = ⟨l.toArray⟩ := ⟨s1.data.toList, by simp⟩
  have b1 : a1.length ≤ 9223372036854775807 := by simpa [maxLen, ByteArray.size] using w1
  obtain ⟨s2, rfl, rfl, rfl, w2⟩ := open_string Tryf.underlying9 (hval 2 9 v2 rfl rfl) h2
  obtain ⟨a2, rfl⟩ : ∃ l : List UInt8, s2 = ⟨l.toArray⟩ := ⟨s2.data.toList, by simp⟩
  have b2 : a2.length ≤ 9223372036854775807 := by simpa [maxLen, ByteArray.size] using w2
  clear hA0
  refine (law_two F a0 a1 a2 W hF w0 b1 b2).mono fun e W' ⟨he, hg⟩ => ?_
  subst he
  exact ⟨_, rfl, law_post kLaidOut (by kernel_rfl) (by kernel_rfl) (by rfl) Tryf.underlying4 (fits H) hW0 hg⟩
theorem reads (os : Os) {H : Type} (enc : TypeId × Value → H) : ∃ x, DataW.whole enc Tryf.prog ((World.laidAll Tryf.prog os Rows.fnPrintTraceTwoOperandsJoinedBySpaceRow.laid).forCall (fun _ _ => 0) ⟨#[], #[.int .i64 0, .string ⟨#[]⟩, .string ⟨#[]⟩], []⟩).memory Tryf.f4.params.toList Rows.fnPrintTraceTwoOperandsJoinedBySpaceSpec.vars false (#[.int .i64 0, .string ⟨#[]⟩, .string ⟨#[]⟩] : Array Value).toList 8 = some x :=
  Option.isSome_iff_exists.1 (by kernel_rfl)
set_option maxHeartbeats 4000000 in
set_option maxRecDepth 100000 in
theorem wit (os : Os) {H : Type} (enc : TypeId × Value → H) (F : Stop.Interp) : ∃ (w : World) (tape : Tape) (i : Input), w.os = os ∧ (w.forCall tape i).Shaped Tryf.checked.prog ∧ i.vars = [] ∧ Input.okWide Tryf.checked.prog (w.forCall tape i) .any w.heap.size 4 i ∧
      (OpenSpec.ofChange Rows.fnPrintTraceTwoOperandsJoinedBySpaceSpec).preRow enc Tryf.checked.prog Tryf.f4 [] false Rows.fnPrintTraceTwoOperandsJoinedBySpaceRow.laid (w.forCall tape i).memory i.args ∧ ({} : Assume).holds Tryf.checked.prog (lone (Frame.enter Tryf.checked.prog 4 i.args .normal) [] (w.forCall tape i)) ∧ F.answers tape := by
  obtain ⟨x, hx⟩ := reads os enc
  have hok : Input.okWideB Tryf.prog ((World.laidAll Tryf.prog os Rows.fnPrintTraceTwoOperandsJoinedBySpaceRow.laid).forCall (fun _ _ => 0) ⟨#[], #[.int .i64 0, .string ⟨#[]⟩, .string ⟨#[]⟩], []⟩) 4 ⟨#[], #[.int .i64 0, .string ⟨#[]⟩, .string ⟨#[]⟩], []⟩ = true := by kernel_rfl
  have hrow : (OpenSpec.ofChange Rows.fnPrintTraceTwoOperandsJoinedBySpaceSpec).preRow enc Tryf.prog Tryf.f4 [] false Rows.fnPrintTraceTwoOperandsJoinedBySpaceRow.laid ((World.laidAll Tryf.prog os Rows.fnPrintTraceTwoOperandsJoinedBySpaceRow.laid).forCall (fun _ _ => 0) ⟨#[], #[.int .i64 0, .string ⟨#[]⟩, .string ⟨#[]⟩], []⟩).memory #[.int .i64 0, .string ⟨#[]⟩, .string ⟨#[]⟩] :=
    OpenSpec.preRow_of_cond 8 hx rfl (fun k hk => by cases hk) (by kernel_rfl) (by rw [MakeChecks.laidMetH_plain _ _ _ (by kernel_rfl)]; exact laidMet_laidAll _ (by kernel_rfl) (by kernel_rfl))
  have hsh := World.shaped_of_ZipB (P := Tryf.prog) (w := (World.laidAll Tryf.prog os Rows.fnPrintTraceTwoOperandsJoinedBySpaceRow.laid).forCall (fun _ _ => 0) ⟨#[], #[.int .i64 0, .string ⟨#[]⟩, .string ⟨#[]⟩], []⟩) (by kernel_rfl) (by kernel_rfl)
  have hos := World.laidAll_os Tryf.prog os Rows.fnPrintTraceTwoOperandsJoinedBySpaceRow.laid
  have hk1 := (Input.okWide_of_okWideB (base := 0) hok).1
  have hk2 := (Input.okWide_of_okWideB (base := (World.laidAll Tryf.prog os Rows.fnPrintTraceTwoOperandsJoinedBySpaceRow.laid).heap.size) hok).2
  clear hok hx
  generalize (World.laidAll Tryf.prog os Rows.fnPrintTraceTwoOperandsJoinedBySpaceRow.laid) = w0 at *
  exact ⟨w0, F.over fun _ _ => 0, ⟨#[], #[.int .i64 0, .string ⟨#[]⟩, .string ⟨#[]⟩], []⟩, hos, hsh, hk1, hk2, hrow, by
    simp only [Assume.holds]
    exact ⟨by simp, by simp, by simp, by simp, by simp⟩, F.over_answers _⟩
theorem lifted (os : Os) (started : os.Started) (H : Type) (enc : TypeId × Value → H) :
    ReturnsInTold none {} Tryf.checked os 4 .any Input.okWide ((OpenSpec.ofChange Rows.fnPrintTraceTwoOperandsJoinedBySpaceSpec).preRow enc Tryf.prog Tryf.f4 [] false Rows.fnPrintTraceTwoOperandsJoinedBySpaceRow.laid) (fun F => ((OpenSpec.ofChange Rows.fnPrintTraceTwoOperandsJoinedBySpaceSpec).at F).post enc Tryf.prog Tryf.f4 false true false false) (aloneAtReturn Tryf.prog) nothingAlways := by
  refine returnsInTold_of_row (C := Tryf.checked) (s := (OpenSpec.ofChange Rows.fnPrintTraceTwoOperandsJoinedBySpaceSpec)) (by kernel_rfl) kOwn started (by kernel_rfl) Tryf.func4 (wit os enc) ?_
  intro F W base args ds gs before _ hF hval hW _ _ _ hL _
  exact contract H enc W base args ds gs before hval hW F hF hL
theorem stopNames : Tryf.pinned.checked.prog.stops = ["fmt.Sprint", "fmt.Sprintln, its operands' methods called"] := by kernel_rfl
theorem stopKnobs : Tryf.pinned.checked.prog.stopKnobs = [] := by kernel_rfl
theorem quiet (os : Os) : Stop.quiet Tryf.pinned.checked.prog os := by
  intro k hk
  rw [stopKnobs] at hk
  cases hk
set_option maxRecDepth 100000 in
theorem told : Rows.FnPrintTraceTwoOperandsJoinedBySpaceToldSaid :=
  Claim7.holds_of_told_any 4 Tryf.f4 "fmt.Sprint" ["fmt.Sprintln, its operands' methods called"] [] _ _ _ (by kernel_rfl) rfl rfl rfl kLaidOut (by kernel_rfl) rfl ⟨rfl, rfl, rfl, rfl, rfl, rfl, rfl⟩ rfl rfl (by kernel_rfl) (by kernel_rfl) Tryf.func4 (by kernel_rfl)
    (of_decide_eq_true (by kernel_rfl)) (by unfold Func.isWrapper; first | (rw [if_pos (by decide +kernel)]; kernel_rfl) | (rw [if_neg (by decide +kernel)]; exact ⟨rfl, rfl⟩)) stopNames.symm rfl stopKnobs.symm (by kernel_rfl)
    (by kernel_rfl) (by kernel_rfl) (by kernel_rfl) (by kernel_rfl) (by kernel_rfl) (by kernel_rfl) (by kernel_rfl) (by kernel_rfl) (by kernel_rfl) rfl (by kernel_rfl) rfl rfl
    rfl rfl
    rfl (by kernel_rfl) (by kernel_rfl) (by kernel_rfl) (by decide) (by kernel_rfl)
    (OpenClaim.moreEntering_of (by kernel_rfl) (by kernel_rfl) (by kernel_rfl) (by kernel_rfl) (by kernel_rfl) (by kernel_rfl) (by kernel_rfl) (by kernel_rfl) (by kernel_rfl) (by kernel_rfl))
    ⟨_, WideRow.started_initial, quiet _⟩
    (fun os started _ H enc _ => lifted os started H enc)
end Go.Proofs.YtbigghdoikbjlaaFmt.fnPrintTraceTwoOperandsJoinedBySpace
