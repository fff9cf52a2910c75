/-
  FnErrorCountNeverDecreasesUnderScan, its told and tied card: for every source of at most 65536 bytes (beyond, the law says true at once). Conditions: none; the listed tables are tied to the text of the program; the text of fmt is told by the kit and goes into no answer.
-/
import Derived.Test.YtamfekpcoppbgaaFmtErrCnt
import Derived.Test.YtamfekpcoppbgaaFmtLaid96
import Derived.Stop.JoinedTold
import Derived.SevenToldRow
import Derived.Test.YtamfekpcoppbgaaFmtCards
import Derived.Test.YtamfekpcoppbgaaFmtTie
import Derived.Lay
import Derived.SevenTiedAt
namespace Go.Proofs.YtamfekpcoppbgaaFmt.fnErrorCountNeverDecreasesUnderScan
open Go.ChangeShapes Go.WideShapes Go.ChangeAt Go.RowKit
open Go.WideMaps Go.WideElems
open Go.ChangeMaps (open_string)
set_option linter.unusedVariables false
set_option maxRecDepth 100000
theorem fits (H : Type) (ds gs : List (DataW H)) (h1 : ds.length = Tryf.f7.params.toList.length) (h2 : gs.length = Rows.fnErrorCountNeverDecreasesUnderScanSpec.vars.length) :
    Rows.fnErrorCountNeverDecreasesUnderScanSpec.fn H (ds ++ gs) = { results := [.lit (.bool true)], args := ds, vars := gs } := by
  rw [Tryf.params7] at h1
  have h1' : ds.length = 1 := h1
  have h2' : gs.length = 1 := h2
  match ds, gs, h1', h2' with
  | [d0], [g0], _, _ => rfl
set_option maxHeartbeats 1000000 in
theorem contract (H : Type) (enc : TypeId × Value → H) (W : World) (base : Nat) (args : Array Value) (ds gs : List (DataW H)) (before : List MemPlace)
    (hval : ∀ (j : Nat) t v, Tryf.f7.params[j]? = some t → args[j]? = some v → Value.okWide Tryf.prog W .any base t v)
    (hW : DataW.Whole enc Tryf.prog Tryf.f7.params.toList Rows.fnErrorCountNeverDecreasesUnderScanSpec.vars false W args.toList ds gs before) (F : Stop.Interp) (hF : F.told.answers W.tape) (hL : laidMetH Tryf.prog Rows.fnErrorCountNeverDecreasesUnderScanRow.laid W) :
    Calls Tryf.prog 7 args W fun e W' => ∃ v, e = .returned v ∧ Rows.fnErrorCountNeverDecreasesUnderScanSpec.post enc Tryf.prog Tryf.f7 false true false false W args v W' := by
  have hW0 := hW
  obtain ⟨p, q, hA0, hV, rfl, hfz, hnd⟩ := hW
  have hA : DataW.TrodAll enc Tryf.prog W 0 (fun _ => true) true Tryf.f7.params.toList args.toList ds p := hA0
  rw [Tryf.params7] at hA hval
  obtain ⟨v0, vs0, d0, ds0, p0, q0, hargs, rfl, rfl, h0, r0⟩ := trodAll_cons hA
  obtain ⟨rfl, rfl, rfl⟩ := trodAll_nil r0
  obtain rfl : args = #[v0] := by cases args; simp_all
  obtain ⟨o0, c0, a0, rfl, bl0, bm0, bs0, bn0⟩ := open_bytes (hval 0 22 v0 rfl rfl) h0 (by have := hW0.lt; intro x hx; exact this x (by simp [hx]))
  clear hA0
  have hL' : laidMet Tryf.prog Rows.fnErrorCountNeverDecreasesUnderScanRow.laid W := by rw [MakeChecks.laidMetH_plain _ _ _ (by kernel_rfl)] at hL; exact hL
  have hAcc := laid_reads hL' (.head _)
  have hTok := laid_reads hL' (.tail _ (.head _))
  have hPro := laid_reads hL' (.tail _ (.tail _ (.head _)))
  have hDig := laid_reads hL' (.tail _ (.tail _ (.tail _ (.head _))))
  have hLet := laid_reads hL' (.tail _ (.tail _ (.tail _ (.tail _ (.head _)))))
  have hFir := laid_reads hL' (.tail _ (.tail _ (.tail _ (.tail _ (.tail _ (.head _))))))
  have hT := u8tabs_of hFir hAcc
  have hG := u8lt_of hFir hAcc
  have hLT := letterTabs_of hPro hLet
  have hDT := digitTab_of hDig
  have hTK := tokCells_of hTok
  refine (err_law o0 c0 a0 W bl0 bm0 bs0 bn0 hT hG hLT hDT hTK F.told hF).mono fun e W' ⟨he, hg⟩ => ?_
  subst he
  exact ⟨_, rfl, law_post kLaidOut (by kernel_rfl) (by kernel_rfl) (by rfl) Tryf.underlying4 (fits H) hW0 hg⟩
theorem reads (os : Os) {H : Type} (enc : TypeId × Value → H) : ∃ x, DataW.whole enc Tryf.prog ((World.laidAll Tryf.prog os Rows.fnErrorCountNeverDecreasesUnderScanRow.laid).forCall (fun _ _ => 0) ⟨#[], #[.slice none 0 0], []⟩).memory Tryf.f7.params.toList Rows.fnErrorCountNeverDecreasesUnderScanSpec.vars false (#[.slice none 0 0] : Array Value).toList 8 = some x :=
  Option.isSome_iff_exists.1 (by kernel_rfl)
set_option maxHeartbeats 4000000 in
set_option maxRecDepth 100000 in
theorem wit (os : Os) {H : Type} (enc : TypeId × Value → H) (F : Stop.Interp) : ∃ (w : World) (tape : Tape) (i : Input), w.os = os ∧ (w.forCall tape i).Shaped Tryf.checked.prog ∧ i.vars = [] ∧ Input.okWide Tryf.checked.prog (w.forCall tape i) .any w.heap.size 7 i ∧
      (OpenSpec.ofChange Rows.fnErrorCountNeverDecreasesUnderScanSpec).preRow enc Tryf.checked.prog Tryf.f7 [] false Rows.fnErrorCountNeverDecreasesUnderScanRow.laid (w.forCall tape i).memory i.args ∧ ({} : Assume).holds Tryf.checked.prog (lone (Frame.enter Tryf.checked.prog 7 i.args .normal) [] (w.forCall tape i)) ∧ F.answers tape := by
  obtain ⟨x, hx⟩ := reads os enc
  have hok : Input.okWideB Tryf.prog ((World.laidAll Tryf.prog os Rows.fnErrorCountNeverDecreasesUnderScanRow.laid).forCall (fun _ _ => 0) ⟨#[], #[.slice none 0 0], []⟩) 7 ⟨#[], #[.slice none 0 0], []⟩ = true := by kernel_rfl
  have hrow : (OpenSpec.ofChange Rows.fnErrorCountNeverDecreasesUnderScanSpec).preRow enc Tryf.prog Tryf.f7 [] false Rows.fnErrorCountNeverDecreasesUnderScanRow.laid ((World.laidAll Tryf.prog os Rows.fnErrorCountNeverDecreasesUnderScanRow.laid).forCall (fun _ _ => 0) ⟨#[], #[.slice none 0 0], []⟩).memory #[.slice none 0 0] :=
    OpenSpec.preRow_of_cond 8 hx rfl (fun k hk => by cases hk) (by kernel_rfl) (by rw [MakeChecks.laidMetH_plain _ _ _ (by kernel_rfl)]; exact laidMet_laidAll _ (by kernel_rfl) (by kernel_rfl))
  have hsh := World.shaped_of_ZipB (P := Tryf.prog) (w := (World.laidAll Tryf.prog os Rows.fnErrorCountNeverDecreasesUnderScanRow.laid).forCall (fun _ _ => 0) ⟨#[], #[.slice none 0 0], []⟩) (by kernel_rfl) (by kernel_rfl)
  have hos := World.laidAll_os Tryf.prog os Rows.fnErrorCountNeverDecreasesUnderScanRow.laid
  have hk1 := (Input.okWide_of_okWideB (base := 0) hok).1
  have hk2 := (Input.okWide_of_okWideB (base := (World.laidAll Tryf.prog os Rows.fnErrorCountNeverDecreasesUnderScanRow.laid).heap.size) hok).2
  clear hok hx
  generalize (World.laidAll Tryf.prog os Rows.fnErrorCountNeverDecreasesUnderScanRow.laid) = w0 at *
  exact ⟨w0, F.over fun _ _ => 0, ⟨#[], #[.slice none 0 0], []⟩, hos, hsh, hk1, hk2, hrow, by
    simp only [Assume.holds]
    exact ⟨by simp, by simp, by simp, by simp, by simp⟩, F.over_answers _⟩
theorem lifted (os : Os) (started : os.Started) (H : Type) (enc : TypeId × Value → H) :
    ReturnsInTold none {} Tryf.checked os 7 .any Input.okWide ((OpenSpec.ofChange Rows.fnErrorCountNeverDecreasesUnderScanSpec).preRow enc Tryf.prog Tryf.f7 [] false Rows.fnErrorCountNeverDecreasesUnderScanRow.laid) (fun F => ((OpenSpec.ofChange Rows.fnErrorCountNeverDecreasesUnderScanSpec).at F).post enc Tryf.prog Tryf.f7 false true false false) (aloneAtReturn Tryf.prog) nothingAlways := by
  refine returnsInTold_of_row (C := Tryf.checked) (s := (OpenSpec.ofChange Rows.fnErrorCountNeverDecreasesUnderScanSpec)) (by kernel_rfl) kOwn started (by kernel_rfl) Tryf.func7 (wit os enc) ?_
  intro F W base args ds gs before _ hF hval hW _ _ _ hL _
  exact contract H enc W base args ds gs before hval hW F hF hL
theorem stopNames : Tryf.pinned.checked.prog.stops = ["fmt.Sprintf"] := by kernel_rfl
theorem stopKnobs : Tryf.pinned.checked.prog.stopKnobs = [] := by kernel_rfl
theorem quiet (os : Os) : Stop.quiet Tryf.pinned.checked.prog os := by
  intro k hk
  rw [stopKnobs] at hk
  cases hk
set_option maxRecDepth 100000 in
theorem told : Rows.FnErrorCountNeverDecreasesUnderScanToldSaid :=
  Claim7.holds_of_told_tied_any_at .later 7 Tryf.f7 "fmt.Sprintf" [] [] _ _ _ _ _ (by kernel_rfl) rfl rfl rfl kLaidOut (by kernel_rfl) rfl ⟨rfl, rfl, rfl, rfl, rfl, rfl, rfl⟩ rfl rfl (by kernel_rfl) (by kernel_rfl) Tryf.func7 (by kernel_rfl)
    (of_decide_eq_true (by kernel_rfl)) (by unfold Func.isWrapper; first | (rw [if_pos (by decide +kernel)]; kernel_rfl) | (rw [if_neg (by decide +kernel)]; exact ⟨rfl, rfl⟩)) stopNames.symm rfl stopKnobs.symm (by kernel_rfl)
    (by kernel_rfl) (by kernel_rfl) (by kernel_rfl) (by kernel_rfl) (by kernel_rfl) (by kernel_rfl) (by kernel_rfl) (by kernel_rfl) (by kernel_rfl) rfl (by kernel_rfl) rfl rfl
    rfl rfl
    rfl (by kernel_rfl) (by kernel_rfl) (by kernel_rfl) (by decide) (by kernel_rfl) fnErrorCountNeverDecreasesUnderScan_row_tie
    (OpenClaim.moreEntering_of (by kernel_rfl) (by kernel_rfl) (by kernel_rfl) (by kernel_rfl) (by kernel_rfl) (by kernel_rfl) (by kernel_rfl) (by kernel_rfl) (by kernel_rfl) (by kernel_rfl))
    ⟨_, WideRow.started_initial, quiet _⟩
    (fun os started _ H enc _ => lifted os started H enc)
end Go.Proofs.YtamfekpcoppbgaaFmt.fnErrorCountNeverDecreasesUnderScan
