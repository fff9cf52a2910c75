/-
  Scan at the marks that stand alone. Conditions: as stated.
  Scan at the operators of one or two runes. Conditions: as stated.
  Scan at the operators of up to three runes. Conditions: as stated.
-/
import Derived.Test.YtamfekpcoppbgaaFmtSnP
namespace Go.Proofs.YtamfekpcoppbgaaFmt
open Go.RowKit
set_option maxRecDepth 100000
set_option linter.unusedVariables false

set_option maxHeartbeats 8000000 in
theorem scan_c44 (F : Fix) (src : List UInt8) (s t : St) (W0 w : World) (hE : Env F W0) (hb0 : Below F.B W0 w) (h : SC F src s w) (hg : Good src s) (hsk : SkipR src s t) (hway : SkWay src s t) (hbs : F.fx.base ≤ 1000000) (hec : s.ec ≤ 90000000000) (hch : t.ch = 44) :
    Calls Tryf.prog 11 #[.pointer (some ⟨F.gS, 0, none⟩)] w (ScanPost F src s w) := by
  have hte : t.ec ≤ 90001048576 := by have := hway.ec; have := hway.good.le; have := h.len; omega
  have hlen := h.len
  have hoff := hway.good.le.2.2
  have HSK := Lib.hid (skip_any F src s w h hg (by omega))
  have HGT := Lib.hid hway.good
  have HE := Lib.hid hE
  have HB0 := Lib.hid hb0
  have HS0 := Lib.hid hsk
  have HKP := Lib.hid hsk.kp
  clear h hg hsk hway hE hb0
  go_enter Tryf.func11, Tryf.ntmps11
  go_wp2_with (go_at_call 30; refine Hid.out ?_)
  refine Lib.hid ?_
  refine HSK.out.mono ?_
  rintro e w1 ⟨t', rfl, hsk', _, hs1, hb1⟩
  obtain rfl := hsk'.det HS0.out
  have c0 : w1.cell? ⟨F.gS, 0, none⟩ = some (.pointer (some ⟨F.gF, 0, none⟩)) := by rw [hs1.blkS.cell]; rfl
  have c3 : w1.cell? ⟨F.gS, 3, none⟩ = some (.int .i64 (t'.off : Int)) := by rw [hs1.blkS.cell]; rfl
  have HFS : Hid (∀ n, Calls Tryf.prog 31 #[.pointer (some ⟨F.gF, 0, none⟩), .int .i64 (t'.off : Int)] (w1.drewN n) fun e w' => e = .returned (.int .i64 ((F.fx.base : Int) + (t'.off : Int))) ∧ w' = w1.drewN n) := Lib.hid (fun n => by
    obtain ⟨lv, hlb, _⟩ := (hs1.drewN n).file
    refine (fsp_any F.gF F.fx src.length t'.off lv _ hlb hs1.off hs1.len).mono (fun _ _ ⟨a, b⟩ => ⟨a.trans ?_, b.symm⟩)
    rw [show wrap64 ((F.fx.base : Int) + (t'.off : Int)) = (F.fx.base : Int) + (t'.off : Int) from wrap_small _ (by omega) (by omega)])
  have H1 := Lib.hid hs1
  have B1 := Lib.hid hb1
  clear hs1 hb1 HSK hsk'
  go_wp2_with fail
  go_quiet ((go_at_call 31; exact Calls.quiet_of_same (HFS.out _)))
  have S2 := Lib.hid (H1.out.drewN nq)
  have B2 := Lib.hid (below_drewN0 B1.out nq)
  have d2 : (w1.drewN nq).cell? ⟨F.gS, 2, none⟩ = some (.int .i32 44) := by rw [S2.out.blkS.cell]; show some (Value.int .i32 _) = _; rw [hch]
  clear c0 c3 H1 B1 HFS
  generalize w1.drewN nq = w2 at S2 B2 d2 ⊢

  have HCH := Lib.hid hch
  have hal : asciiLetter 44 = false := by decide
  go_wp2_with (go_at_call 32; refine Hid.out ?_)
  refine Lib.hid ?_
  refine (isLetter_ascii 44 w2 (by omega)).mono ?_
  rintro e w' ⟨rfl, rfl⟩
  rw [hal]
  clear hch hal

  go_wp2_with (go_at_call 37; refine Hid.out ?_)
  refine Lib.hid ?_
  refine (next_any F src t' _ S2.out (by omega)).mono ?_
  rintro e w3 ⟨rfl, hs3, hb3⟩
  obtain ⟨u, hu⟩ : ∃ u, nx src t' = u := ⟨_, rfl⟩
  have hue := nx_ec1 src t'
  rw [hu] at hs3 hue
  have HU := Lib.hid hu
  have S3 := Lib.hid hs3
  have B3 := Lib.hid (B2.out.trans hb3)
  clear hs3 hb3 hu S2 B2 d2
  have HT : Hid (TokR src t' 50 [] (fin false u)) := Lib.hid (TokR.sym (by rw [HCH.out]; rfl) (by unfold numC; rw [HCH.out]; rfl) (by rw [← HU.out]; unfold symT; rw [HCH.out]; rfl))

  have d9 : w3.cell? ⟨F.gS, 9, none⟩ = some (.int .i64 (u).mode) := by rw [S3.out.blkS.cell]; rfl
  have d6 : w3.cell? ⟨F.gS, 6, none⟩ = some (.bool (u).semi) := by rw [S3.out.blkS.cell]; rfl
  have f6 := S3.out.blkS.free 6
  rcases hm : (bits .and .i64 (u).mode 2 == 0) with _ | _
  · have HF := Lib.hid (fin_no (b := false) hm)
    go_wp2_with fail
    go_ret3
    exact ScanPost.of HS0.out HT.out (by rw [HF.out]; exact S3.out) B3.out
  · have HF := Lib.hid (fin_yes (b := false) hm)
    have HSC := Lib.hid (S3.out.setSemi (false))
    have HBC := Lib.hid (B3.out.trans (S3.out.put_below 6 (.bool (false))))
    go_wp2_with fail
    go_ret3
    exact ScanPost.of HS0.out HT.out (by rw [HF.out]; exact HSC.out) HBC.out

set_option maxHeartbeats 8000000 in
theorem scan_c63 (F : Fix) (src : List UInt8) (s t : St) (W0 w : World) (hE : Env F W0) (hb0 : Below F.B W0 w) (h : SC F src s w) (hg : Good src s) (hsk : SkipR src s t) (hway : SkWay src s t) (hbs : F.fx.base ≤ 1000000) (hec : s.ec ≤ 90000000000) (hch : t.ch = 63) :
    Calls Tryf.prog 11 #[.pointer (some ⟨F.gS, 0, none⟩)] w (ScanPost F src s w) := by
  have hte : t.ec ≤ 90001048576 := by have := hway.ec; have := hway.good.le; have := h.len; omega
  have hlen := h.len
  have hoff := hway.good.le.2.2
  have HSK := Lib.hid (skip_any F src s w h hg (by omega))
  have HGT := Lib.hid hway.good
  have HE := Lib.hid hE
  have HB0 := Lib.hid hb0
  have HS0 := Lib.hid hsk
  have HKP := Lib.hid hsk.kp
  clear h hg hsk hway hE hb0
  go_enter Tryf.func11, Tryf.ntmps11
  go_wp2_with (go_at_call 30; refine Hid.out ?_)
  refine Lib.hid ?_
  refine HSK.out.mono ?_
  rintro e w1 ⟨t', rfl, hsk', _, hs1, hb1⟩
  obtain rfl := hsk'.det HS0.out
  have c0 : w1.cell? ⟨F.gS, 0, none⟩ = some (.pointer (some ⟨F.gF, 0, none⟩)) := by rw [hs1.blkS.cell]; rfl
  have c3 : w1.cell? ⟨F.gS, 3, none⟩ = some (.int .i64 (t'.off : Int)) := by rw [hs1.blkS.cell]; rfl
  have HFS : Hid (∀ n, Calls Tryf.prog 31 #[.pointer (some ⟨F.gF, 0, none⟩), .int .i64 (t'.off : Int)] (w1.drewN n) fun e w' => e = .returned (.int .i64 ((F.fx.base : Int) + (t'.off : Int))) ∧ w' = w1.drewN n) := Lib.hid (fun n => by
    obtain ⟨lv, hlb, _⟩ := (hs1.drewN n).file
    refine (fsp_any F.gF F.fx src.length t'.off lv _ hlb hs1.off hs1.len).mono (fun _ _ ⟨a, b⟩ => ⟨a.trans ?_, b.symm⟩)
    rw [show wrap64 ((F.fx.base : Int) + (t'.off : Int)) = (F.fx.base : Int) + (t'.off : Int) from wrap_small _ (by omega) (by omega)])
  have H1 := Lib.hid hs1
  have B1 := Lib.hid hb1
  clear hs1 hb1 HSK hsk'
  go_wp2_with fail
  go_quiet ((go_at_call 31; exact Calls.quiet_of_same (HFS.out _)))
  have S2 := Lib.hid (H1.out.drewN nq)
  have B2 := Lib.hid (below_drewN0 B1.out nq)
  have d2 : (w1.drewN nq).cell? ⟨F.gS, 2, none⟩ = some (.int .i32 63) := by rw [S2.out.blkS.cell]; show some (Value.int .i32 _) = _; rw [hch]
  clear c0 c3 H1 B1 HFS
  generalize w1.drewN nq = w2 at S2 B2 d2 ⊢

  have HCH := Lib.hid hch
  have hal : asciiLetter 63 = false := by decide
  go_wp2_with (go_at_call 32; refine Hid.out ?_)
  refine Lib.hid ?_
  refine (isLetter_ascii 63 w2 (by omega)).mono ?_
  rintro e w' ⟨rfl, rfl⟩
  rw [hal]
  clear hch hal

  go_wp2_with (go_at_call 37; refine Hid.out ?_)
  refine Lib.hid ?_
  refine (next_any F src t' _ S2.out (by omega)).mono ?_
  rintro e w3 ⟨rfl, hs3, hb3⟩
  obtain ⟨u, hu⟩ : ∃ u, nx src t' = u := ⟨_, rfl⟩
  have hue := nx_ec1 src t'
  rw [hu] at hs3 hue
  have HU := Lib.hid hu
  have S3 := Lib.hid hs3
  have B3 := Lib.hid (B2.out.trans hb3)
  clear hs3 hb3 hu S2 B2 d2
  have HT : Hid (TokR src t' 57 [] (fin false u)) := Lib.hid (TokR.sym (by rw [HCH.out]; rfl) (by unfold numC; rw [HCH.out]; rfl) (by rw [← HU.out]; unfold symT; rw [HCH.out]; rfl))

  have d9 : w3.cell? ⟨F.gS, 9, none⟩ = some (.int .i64 (u).mode) := by rw [S3.out.blkS.cell]; rfl
  have d6 : w3.cell? ⟨F.gS, 6, none⟩ = some (.bool (u).semi) := by rw [S3.out.blkS.cell]; rfl
  have f6 := S3.out.blkS.free 6
  rcases hm : (bits .and .i64 (u).mode 2 == 0) with _ | _
  · have HF := Lib.hid (fin_no (b := false) hm)
    go_wp2_with fail
    go_ret3
    exact ScanPost.of HS0.out HT.out (by rw [HF.out]; exact S3.out) B3.out
  · have HF := Lib.hid (fin_yes (b := false) hm)
    have HSC := Lib.hid (S3.out.setSemi (false))
    have HBC := Lib.hid (B3.out.trans (S3.out.put_below 6 (.bool (false))))
    go_wp2_with fail
    go_ret3
    exact ScanPost.of HS0.out HT.out (by rw [HF.out]; exact HSC.out) HBC.out

set_option maxHeartbeats 8000000 in
theorem scan_c59 (F : Fix) (src : List UInt8) (s t : St) (W0 w : World) (hE : Env F W0) (hb0 : Below F.B W0 w) (h : SC F src s w) (hg : Good src s) (hsk : SkipR src s t) (hway : SkWay src s t) (hbs : F.fx.base ≤ 1000000) (hec : s.ec ≤ 90000000000) (hch : t.ch = 59) :
    Calls Tryf.prog 11 #[.pointer (some ⟨F.gS, 0, none⟩)] w (ScanPost F src s w) := by
  have hte : t.ec ≤ 90001048576 := by have := hway.ec; have := hway.good.le; have := h.len; omega
  have hlen := h.len
  have hoff := hway.good.le.2.2
  have HSK := Lib.hid (skip_any F src s w h hg (by omega))
  have HGT := Lib.hid hway.good
  have HE := Lib.hid hE
  have HB0 := Lib.hid hb0
  have HS0 := Lib.hid hsk
  have HKP := Lib.hid hsk.kp
  clear h hg hsk hway hE hb0
  go_enter Tryf.func11, Tryf.ntmps11
  go_wp2_with (go_at_call 30; refine Hid.out ?_)
  refine Lib.hid ?_
  refine HSK.out.mono ?_
  rintro e w1 ⟨t', rfl, hsk', _, hs1, hb1⟩
  obtain rfl := hsk'.det HS0.out
  have c0 : w1.cell? ⟨F.gS, 0, none⟩ = some (.pointer (some ⟨F.gF, 0, none⟩)) := by rw [hs1.blkS.cell]; rfl
  have c3 : w1.cell? ⟨F.gS, 3, none⟩ = some (.int .i64 (t'.off : Int)) := by rw [hs1.blkS.cell]; rfl
  have HFS : Hid (∀ n, Calls Tryf.prog 31 #[.pointer (some ⟨F.gF, 0, none⟩), .int .i64 (t'.off : Int)] (w1.drewN n) fun e w' => e = .returned (.int .i64 ((F.fx.base : Int) + (t'.off : Int))) ∧ w' = w1.drewN n) := Lib.hid (fun n => by
    obtain ⟨lv, hlb, _⟩ := (hs1.drewN n).file
    refine (fsp_any F.gF F.fx src.length t'.off lv _ hlb hs1.off hs1.len).mono (fun _ _ ⟨a, b⟩ => ⟨a.trans ?_, b.symm⟩)
    rw [show wrap64 ((F.fx.base : Int) + (t'.off : Int)) = (F.fx.base : Int) + (t'.off : Int) from wrap_small _ (by omega) (by omega)])
  have H1 := Lib.hid hs1
  have B1 := Lib.hid hb1
  clear hs1 hb1 HSK hsk'
  go_wp2_with fail
  go_quiet ((go_at_call 31; exact Calls.quiet_of_same (HFS.out _)))
  have S2 := Lib.hid (H1.out.drewN nq)
  have B2 := Lib.hid (below_drewN0 B1.out nq)
  have d2 : (w1.drewN nq).cell? ⟨F.gS, 2, none⟩ = some (.int .i32 59) := by rw [S2.out.blkS.cell]; show some (Value.int .i32 _) = _; rw [hch]
  clear c0 c3 H1 B1 HFS
  generalize w1.drewN nq = w2 at S2 B2 d2 ⊢

  have HCH := Lib.hid hch
  have hal : asciiLetter 59 = false := by decide
  go_wp2_with (go_at_call 32; refine Hid.out ?_)
  refine Lib.hid ?_
  refine (isLetter_ascii 59 w2 (by omega)).mono ?_
  rintro e w' ⟨rfl, rfl⟩
  rw [hal]
  clear hch hal

  go_wp2_with (go_at_call 37; refine Hid.out ?_)
  refine Lib.hid ?_
  refine (next_any F src t' _ S2.out (by omega)).mono ?_
  rintro e w3 ⟨rfl, hs3, hb3⟩
  obtain ⟨u, hu⟩ : ∃ u, nx src t' = u := ⟨_, rfl⟩
  have hue := nx_ec1 src t'
  rw [hu] at hs3 hue
  have HU := Lib.hid hu
  have S3 := Lib.hid hs3
  have B3 := Lib.hid (B2.out.trans hb3)
  clear hs3 hb3 hu S2 B2 d2
  have HT : Hid (TokR src t' 55 [59] (fin false u)) := Lib.hid (TokR.sym (by rw [HCH.out]; rfl) (by unfold numC; rw [HCH.out]; rfl) (by rw [← HU.out]; unfold symT; rw [HCH.out]; rfl))

  have d9 : w3.cell? ⟨F.gS, 9, none⟩ = some (.int .i64 (u).mode) := by rw [S3.out.blkS.cell]; rfl
  have d6 : w3.cell? ⟨F.gS, 6, none⟩ = some (.bool (u).semi) := by rw [S3.out.blkS.cell]; rfl
  have f6 := S3.out.blkS.free 6
  rcases hm : (bits .and .i64 (u).mode 2 == 0) with _ | _
  · have HF := Lib.hid (fin_no (b := false) hm)
    go_wp2_with fail
    go_ret3
    exact ScanPost.of HS0.out HT.out (by rw [HF.out]; exact S3.out) B3.out
  · have HF := Lib.hid (fin_yes (b := false) hm)
    have HSC := Lib.hid (S3.out.setSemi (false))
    have HBC := Lib.hid (B3.out.trans (S3.out.put_below 6 (.bool (false))))
    go_wp2_with fail
    go_ret3
    exact ScanPost.of HS0.out HT.out (by rw [HF.out]; exact HSC.out) HBC.out

set_option maxHeartbeats 8000000 in
theorem scan_c40 (F : Fix) (src : List UInt8) (s t : St) (W0 w : World) (hE : Env F W0) (hb0 : Below F.B W0 w) (h : SC F src s w) (hg : Good src s) (hsk : SkipR src s t) (hway : SkWay src s t) (hbs : F.fx.base ≤ 1000000) (hec : s.ec ≤ 90000000000) (hch : t.ch = 40) :
    Calls Tryf.prog 11 #[.pointer (some ⟨F.gS, 0, none⟩)] w (ScanPost F src s w) := by
  have hte : t.ec ≤ 90001048576 := by have := hway.ec; have := hway.good.le; have := h.len; omega
  have hlen := h.len
  have hoff := hway.good.le.2.2
  have HSK := Lib.hid (skip_any F src s w h hg (by omega))
  have HGT := Lib.hid hway.good
  have HE := Lib.hid hE
  have HB0 := Lib.hid hb0
  have HS0 := Lib.hid hsk
  have HKP := Lib.hid hsk.kp
  clear h hg hsk hway hE hb0
  go_enter Tryf.func11, Tryf.ntmps11
  go_wp2_with (go_at_call 30; refine Hid.out ?_)
  refine Lib.hid ?_
  refine HSK.out.mono ?_
  rintro e w1 ⟨t', rfl, hsk', _, hs1, hb1⟩
  obtain rfl := hsk'.det HS0.out
  have c0 : w1.cell? ⟨F.gS, 0, none⟩ = some (.pointer (some ⟨F.gF, 0, none⟩)) := by rw [hs1.blkS.cell]; rfl
  have c3 : w1.cell? ⟨F.gS, 3, none⟩ = some (.int .i64 (t'.off : Int)) := by rw [hs1.blkS.cell]; rfl
  have HFS : Hid (∀ n, Calls Tryf.prog 31 #[.pointer (some ⟨F.gF, 0, none⟩), .int .i64 (t'.off : Int)] (w1.drewN n) fun e w' => e = .returned (.int .i64 ((F.fx.base : Int) + (t'.off : Int))) ∧ w' = w1.drewN n) := Lib.hid (fun n => by
    obtain ⟨lv, hlb, _⟩ := (hs1.drewN n).file
    refine (fsp_any F.gF F.fx src.length t'.off lv _ hlb hs1.off hs1.len).mono (fun _ _ ⟨a, b⟩ => ⟨a.trans ?_, b.symm⟩)
    rw [show wrap64 ((F.fx.base : Int) + (t'.off : Int)) = (F.fx.base : Int) + (t'.off : Int) from wrap_small _ (by omega) (by omega)])
  have H1 := Lib.hid hs1
  have B1 := Lib.hid hb1
  clear hs1 hb1 HSK hsk'
  go_wp2_with fail
  go_quiet ((go_at_call 31; exact Calls.quiet_of_same (HFS.out _)))
  have S2 := Lib.hid (H1.out.drewN nq)
  have B2 := Lib.hid (below_drewN0 B1.out nq)
  have d2 : (w1.drewN nq).cell? ⟨F.gS, 2, none⟩ = some (.int .i32 40) := by rw [S2.out.blkS.cell]; show some (Value.int .i32 _) = _; rw [hch]
  clear c0 c3 H1 B1 HFS
  generalize w1.drewN nq = w2 at S2 B2 d2 ⊢

  have HCH := Lib.hid hch
  have hal : asciiLetter 40 = false := by decide
  go_wp2_with (go_at_call 32; refine Hid.out ?_)
  refine Lib.hid ?_
  refine (isLetter_ascii 40 w2 (by omega)).mono ?_
  rintro e w' ⟨rfl, rfl⟩
  rw [hal]
  clear hch hal

  go_wp2_with (go_at_call 37; refine Hid.out ?_)
  refine Lib.hid ?_
  refine (next_any F src t' _ S2.out (by omega)).mono ?_
  rintro e w3 ⟨rfl, hs3, hb3⟩
  obtain ⟨u, hu⟩ : ∃ u, nx src t' = u := ⟨_, rfl⟩
  have hue := nx_ec1 src t'
  rw [hu] at hs3 hue
  have HU := Lib.hid hu
  have S3 := Lib.hid hs3
  have B3 := Lib.hid (B2.out.trans hb3)
  clear hs3 hb3 hu S2 B2 d2
  have HT : Hid (TokR src t' 47 [] (fin false u)) := Lib.hid (TokR.sym (by rw [HCH.out]; rfl) (by unfold numC; rw [HCH.out]; rfl) (by rw [← HU.out]; unfold symT; rw [HCH.out]; rfl))

  have d9 : w3.cell? ⟨F.gS, 9, none⟩ = some (.int .i64 (u).mode) := by rw [S3.out.blkS.cell]; rfl
  have d6 : w3.cell? ⟨F.gS, 6, none⟩ = some (.bool (u).semi) := by rw [S3.out.blkS.cell]; rfl
  have f6 := S3.out.blkS.free 6
  rcases hm : (bits .and .i64 (u).mode 2 == 0) with _ | _
  · have HF := Lib.hid (fin_no (b := false) hm)
    go_wp2_with fail
    go_ret3
    exact ScanPost.of HS0.out HT.out (by rw [HF.out]; exact S3.out) B3.out
  · have HF := Lib.hid (fin_yes (b := false) hm)
    have HSC := Lib.hid (S3.out.setSemi (false))
    have HBC := Lib.hid (B3.out.trans (S3.out.put_below 6 (.bool (false))))
    go_wp2_with fail
    go_ret3
    exact ScanPost.of HS0.out HT.out (by rw [HF.out]; exact HSC.out) HBC.out

set_option maxHeartbeats 8000000 in
theorem scan_c41 (F : Fix) (src : List UInt8) (s t : St) (W0 w : World) (hE : Env F W0) (hb0 : Below F.B W0 w) (h : SC F src s w) (hg : Good src s) (hsk : SkipR src s t) (hway : SkWay src s t) (hbs : F.fx.base ≤ 1000000) (hec : s.ec ≤ 90000000000) (hch : t.ch = 41) :
    Calls Tryf.prog 11 #[.pointer (some ⟨F.gS, 0, none⟩)] w (ScanPost F src s w) := by
  have hte : t.ec ≤ 90001048576 := by have := hway.ec; have := hway.good.le; have := h.len; omega
  have hlen := h.len
  have hoff := hway.good.le.2.2
  have HSK := Lib.hid (skip_any F src s w h hg (by omega))
  have HGT := Lib.hid hway.good
  have HE := Lib.hid hE
  have HB0 := Lib.hid hb0
  have HS0 := Lib.hid hsk
  have HKP := Lib.hid hsk.kp
  clear h hg hsk hway hE hb0
  go_enter Tryf.func11, Tryf.ntmps11
  go_wp2_with (go_at_call 30; refine Hid.out ?_)
  refine Lib.hid ?_
  refine HSK.out.mono ?_
  rintro e w1 ⟨t', rfl, hsk', _, hs1, hb1⟩
  obtain rfl := hsk'.det HS0.out
  have c0 : w1.cell? ⟨F.gS, 0, none⟩ = some (.pointer (some ⟨F.gF, 0, none⟩)) := by rw [hs1.blkS.cell]; rfl
  have c3 : w1.cell? ⟨F.gS, 3, none⟩ = some (.int .i64 (t'.off : Int)) := by rw [hs1.blkS.cell]; rfl
  have HFS : Hid (∀ n, Calls Tryf.prog 31 #[.pointer (some ⟨F.gF, 0, none⟩), .int .i64 (t'.off : Int)] (w1.drewN n) fun e w' => e = .returned (.int .i64 ((F.fx.base : Int) + (t'.off : Int))) ∧ w' = w1.drewN n) := Lib.hid (fun n => by
    obtain ⟨lv, hlb, _⟩ := (hs1.drewN n).file
    refine (fsp_any F.gF F.fx src.length t'.off lv _ hlb hs1.off hs1.len).mono (fun _ _ ⟨a, b⟩ => ⟨a.trans ?_, b.symm⟩)
    rw [show wrap64 ((F.fx.base : Int) + (t'.off : Int)) = (F.fx.base : Int) + (t'.off : Int) from wrap_small _ (by omega) (by omega)])
  have H1 := Lib.hid hs1
  have B1 := Lib.hid hb1
  clear hs1 hb1 HSK hsk'
  go_wp2_with fail
  go_quiet ((go_at_call 31; exact Calls.quiet_of_same (HFS.out _)))
  have S2 := Lib.hid (H1.out.drewN nq)
  have B2 := Lib.hid (below_drewN0 B1.out nq)
  have d2 : (w1.drewN nq).cell? ⟨F.gS, 2, none⟩ = some (.int .i32 41) := by rw [S2.out.blkS.cell]; show some (Value.int .i32 _) = _; rw [hch]
  clear c0 c3 H1 B1 HFS
  generalize w1.drewN nq = w2 at S2 B2 d2 ⊢

  have HCH := Lib.hid hch
  have hal : asciiLetter 41 = false := by decide
  go_wp2_with (go_at_call 32; refine Hid.out ?_)
  refine Lib.hid ?_
  refine (isLetter_ascii 41 w2 (by omega)).mono ?_
  rintro e w' ⟨rfl, rfl⟩
  rw [hal]
  clear hch hal

  go_wp2_with (go_at_call 37; refine Hid.out ?_)
  refine Lib.hid ?_
  refine (next_any F src t' _ S2.out (by omega)).mono ?_
  rintro e w3 ⟨rfl, hs3, hb3⟩
  obtain ⟨u, hu⟩ : ∃ u, nx src t' = u := ⟨_, rfl⟩
  have hue := nx_ec1 src t'
  rw [hu] at hs3 hue
  have HU := Lib.hid hu
  have S3 := Lib.hid hs3
  have B3 := Lib.hid (B2.out.trans hb3)
  clear hs3 hb3 hu S2 B2 d2
  have HT : Hid (TokR src t' 52 [] (fin true u)) := Lib.hid (TokR.sym (by rw [HCH.out]; rfl) (by unfold numC; rw [HCH.out]; rfl) (by rw [← HU.out]; unfold symT; rw [HCH.out]; rfl))

  have d9 : w3.cell? ⟨F.gS, 9, none⟩ = some (.int .i64 (u).mode) := by rw [S3.out.blkS.cell]; rfl
  have d6 : w3.cell? ⟨F.gS, 6, none⟩ = some (.bool (u).semi) := by rw [S3.out.blkS.cell]; rfl
  have f6 := S3.out.blkS.free 6
  rcases hm : (bits .and .i64 (u).mode 2 == 0) with _ | _
  · have HF := Lib.hid (fin_no (b := true) hm)
    go_wp2_with fail
    go_ret3
    exact ScanPost.of HS0.out HT.out (by rw [HF.out]; exact S3.out) B3.out
  · have HF := Lib.hid (fin_yes (b := true) hm)
    have HSC := Lib.hid (S3.out.setSemi (true))
    have HBC := Lib.hid (B3.out.trans (S3.out.put_below 6 (.bool (true))))
    go_wp2_with fail
    go_ret3
    exact ScanPost.of HS0.out HT.out (by rw [HF.out]; exact HSC.out) HBC.out

set_option maxHeartbeats 8000000 in
theorem scan_c91 (F : Fix) (src : List UInt8) (s t : St) (W0 w : World) (hE : Env F W0) (hb0 : Below F.B W0 w) (h : SC F src s w) (hg : Good src s) (hsk : SkipR src s t) (hway : SkWay src s t) (hbs : F.fx.base ≤ 1000000) (hec : s.ec ≤ 90000000000) (hch : t.ch = 91) :
    Calls Tryf.prog 11 #[.pointer (some ⟨F.gS, 0, none⟩)] w (ScanPost F src s w) := by
  have hte : t.ec ≤ 90001048576 := by have := hway.ec; have := hway.good.le; have := h.len; omega
  have hlen := h.len
  have hoff := hway.good.le.2.2
  have HSK := Lib.hid (skip_any F src s w h hg (by omega))
  have HGT := Lib.hid hway.good
  have HE := Lib.hid hE
  have HB0 := Lib.hid hb0
  have HS0 := Lib.hid hsk
  have HKP := Lib.hid hsk.kp
  clear h hg hsk hway hE hb0
  go_enter Tryf.func11, Tryf.ntmps11
  go_wp2_with (go_at_call 30; refine Hid.out ?_)
  refine Lib.hid ?_
  refine HSK.out.mono ?_
  rintro e w1 ⟨t', rfl, hsk', _, hs1, hb1⟩
  obtain rfl := hsk'.det HS0.out
  have c0 : w1.cell? ⟨F.gS, 0, none⟩ = some (.pointer (some ⟨F.gF, 0, none⟩)) := by rw [hs1.blkS.cell]; rfl
  have c3 : w1.cell? ⟨F.gS, 3, none⟩ = some (.int .i64 (t'.off : Int)) := by rw [hs1.blkS.cell]; rfl
  have HFS : Hid (∀ n, Calls Tryf.prog 31 #[.pointer (some ⟨F.gF, 0, none⟩), .int .i64 (t'.off : Int)] (w1.drewN n) fun e w' => e = .returned (.int .i64 ((F.fx.base : Int) + (t'.off : Int))) ∧ w' = w1.drewN n) := Lib.hid (fun n => by
    obtain ⟨lv, hlb, _⟩ := (hs1.drewN n).file
    refine (fsp_any F.gF F.fx src.length t'.off lv _ hlb hs1.off hs1.len).mono (fun _ _ ⟨a, b⟩ => ⟨a.trans ?_, b.symm⟩)
    rw [show wrap64 ((F.fx.base : Int) + (t'.off : Int)) = (F.fx.base : Int) + (t'.off : Int) from wrap_small _ (by omega) (by omega)])
  have H1 := Lib.hid hs1
  have B1 := Lib.hid hb1
  clear hs1 hb1 HSK hsk'
  go_wp2_with fail
  go_quiet ((go_at_call 31; exact Calls.quiet_of_same (HFS.out _)))
  have S2 := Lib.hid (H1.out.drewN nq)
  have B2 := Lib.hid (below_drewN0 B1.out nq)
  have d2 : (w1.drewN nq).cell? ⟨F.gS, 2, none⟩ = some (.int .i32 91) := by rw [S2.out.blkS.cell]; show some (Value.int .i32 _) = _; rw [hch]
  clear c0 c3 H1 B1 HFS
  generalize w1.drewN nq = w2 at S2 B2 d2 ⊢

  have HCH := Lib.hid hch
  have hal : asciiLetter 91 = false := by decide
  go_wp2_with (go_at_call 32; refine Hid.out ?_)
  refine Lib.hid ?_
  refine (isLetter_ascii 91 w2 (by omega)).mono ?_
  rintro e w' ⟨rfl, rfl⟩
  rw [hal]
  clear hch hal

  go_wp2_with (go_at_call 37; refine Hid.out ?_)
  refine Lib.hid ?_
  refine (next_any F src t' _ S2.out (by omega)).mono ?_
  rintro e w3 ⟨rfl, hs3, hb3⟩
  obtain ⟨u, hu⟩ : ∃ u, nx src t' = u := ⟨_, rfl⟩
  have hue := nx_ec1 src t'
  rw [hu] at hs3 hue
  have HU := Lib.hid hu
  have S3 := Lib.hid hs3
  have B3 := Lib.hid (B2.out.trans hb3)
  clear hs3 hb3 hu S2 B2 d2
  have HT : Hid (TokR src t' 48 [] (fin false u)) := Lib.hid (TokR.sym (by rw [HCH.out]; rfl) (by unfold numC; rw [HCH.out]; rfl) (by rw [← HU.out]; unfold symT; rw [HCH.out]; rfl))

  have d9 : w3.cell? ⟨F.gS, 9, none⟩ = some (.int .i64 (u).mode) := by rw [S3.out.blkS.cell]; rfl
  have d6 : w3.cell? ⟨F.gS, 6, none⟩ = some (.bool (u).semi) := by rw [S3.out.blkS.cell]; rfl
  have f6 := S3.out.blkS.free 6
  rcases hm : (bits .and .i64 (u).mode 2 == 0) with _ | _
  · have HF := Lib.hid (fin_no (b := false) hm)
    go_wp2_with fail
    go_ret3
    exact ScanPost.of HS0.out HT.out (by rw [HF.out]; exact S3.out) B3.out
  · have HF := Lib.hid (fin_yes (b := false) hm)
    have HSC := Lib.hid (S3.out.setSemi (false))
    have HBC := Lib.hid (B3.out.trans (S3.out.put_below 6 (.bool (false))))
    go_wp2_with fail
    go_ret3
    exact ScanPost.of HS0.out HT.out (by rw [HF.out]; exact HSC.out) HBC.out

set_option maxHeartbeats 8000000 in
theorem scan_c93 (F : Fix) (src : List UInt8) (s t : St) (W0 w : World) (hE : Env F W0) (hb0 : Below F.B W0 w) (h : SC F src s w) (hg : Good src s) (hsk : SkipR src s t) (hway : SkWay src s t) (hbs : F.fx.base ≤ 1000000) (hec : s.ec ≤ 90000000000) (hch : t.ch = 93) :
    Calls Tryf.prog 11 #[.pointer (some ⟨F.gS, 0, none⟩)] w (ScanPost F src s w) := by
  have hte : t.ec ≤ 90001048576 := by have := hway.ec; have := hway.good.le; have := h.len; omega
  have hlen := h.len
  have hoff := hway.good.le.2.2
  have HSK := Lib.hid (skip_any F src s w h hg (by omega))
  have HGT := Lib.hid hway.good
  have HE := Lib.hid hE
  have HB0 := Lib.hid hb0
  have HS0 := Lib.hid hsk
  have HKP := Lib.hid hsk.kp
  clear h hg hsk hway hE hb0
  go_enter Tryf.func11, Tryf.ntmps11
  go_wp2_with (go_at_call 30; refine Hid.out ?_)
  refine Lib.hid ?_
  refine HSK.out.mono ?_
  rintro e w1 ⟨t', rfl, hsk', _, hs1, hb1⟩
  obtain rfl := hsk'.det HS0.out
  have c0 : w1.cell? ⟨F.gS, 0, none⟩ = some (.pointer (some ⟨F.gF, 0, none⟩)) := by rw [hs1.blkS.cell]; rfl
  have c3 : w1.cell? ⟨F.gS, 3, none⟩ = some (.int .i64 (t'.off : Int)) := by rw [hs1.blkS.cell]; rfl
  have HFS : Hid (∀ n, Calls Tryf.prog 31 #[.pointer (some ⟨F.gF, 0, none⟩), .int .i64 (t'.off : Int)] (w1.drewN n) fun e w' => e = .returned (.int .i64 ((F.fx.base : Int) + (t'.off : Int))) ∧ w' = w1.drewN n) := Lib.hid (fun n => by
    obtain ⟨lv, hlb, _⟩ := (hs1.drewN n).file
    refine (fsp_any F.gF F.fx src.length t'.off lv _ hlb hs1.off hs1.len).mono (fun _ _ ⟨a, b⟩ => ⟨a.trans ?_, b.symm⟩)
    rw [show wrap64 ((F.fx.base : Int) + (t'.off : Int)) = (F.fx.base : Int) + (t'.off : Int) from wrap_small _ (by omega) (by omega)])
  have H1 := Lib.hid hs1
  have B1 := Lib.hid hb1
  clear hs1 hb1 HSK hsk'
  go_wp2_with fail
  go_quiet ((go_at_call 31; exact Calls.quiet_of_same (HFS.out _)))
  have S2 := Lib.hid (H1.out.drewN nq)
  have B2 := Lib.hid (below_drewN0 B1.out nq)
  have d2 : (w1.drewN nq).cell? ⟨F.gS, 2, none⟩ = some (.int .i32 93) := by rw [S2.out.blkS.cell]; show some (Value.int .i32 _) = _; rw [hch]
  clear c0 c3 H1 B1 HFS
  generalize w1.drewN nq = w2 at S2 B2 d2 ⊢

  have HCH := Lib.hid hch
  have hal : asciiLetter 93 = false := by decide
  go_wp2_with (go_at_call 32; refine Hid.out ?_)
  refine Lib.hid ?_
  refine (isLetter_ascii 93 w2 (by omega)).mono ?_
  rintro e w' ⟨rfl, rfl⟩
  rw [hal]
  clear hch hal

  go_wp2_with (go_at_call 37; refine Hid.out ?_)
  refine Lib.hid ?_
  refine (next_any F src t' _ S2.out (by omega)).mono ?_
  rintro e w3 ⟨rfl, hs3, hb3⟩
  obtain ⟨u, hu⟩ : ∃ u, nx src t' = u := ⟨_, rfl⟩
  have hue := nx_ec1 src t'
  rw [hu] at hs3 hue
  have HU := Lib.hid hu
  have S3 := Lib.hid hs3
  have B3 := Lib.hid (B2.out.trans hb3)
  clear hs3 hb3 hu S2 B2 d2
  have HT : Hid (TokR src t' 53 [] (fin true u)) := Lib.hid (TokR.sym (by rw [HCH.out]; rfl) (by unfold numC; rw [HCH.out]; rfl) (by rw [← HU.out]; unfold symT; rw [HCH.out]; rfl))

  have d9 : w3.cell? ⟨F.gS, 9, none⟩ = some (.int .i64 (u).mode) := by rw [S3.out.blkS.cell]; rfl
  have d6 : w3.cell? ⟨F.gS, 6, none⟩ = some (.bool (u).semi) := by rw [S3.out.blkS.cell]; rfl
  have f6 := S3.out.blkS.free 6
  rcases hm : (bits .and .i64 (u).mode 2 == 0) with _ | _
  · have HF := Lib.hid (fin_no (b := true) hm)
    go_wp2_with fail
    go_ret3
    exact ScanPost.of HS0.out HT.out (by rw [HF.out]; exact S3.out) B3.out
  · have HF := Lib.hid (fin_yes (b := true) hm)
    have HSC := Lib.hid (S3.out.setSemi (true))
    have HBC := Lib.hid (B3.out.trans (S3.out.put_below 6 (.bool (true))))
    go_wp2_with fail
    go_ret3
    exact ScanPost.of HS0.out HT.out (by rw [HF.out]; exact HSC.out) HBC.out

set_option maxHeartbeats 8000000 in
theorem scan_c123 (F : Fix) (src : List UInt8) (s t : St) (W0 w : World) (hE : Env F W0) (hb0 : Below F.B W0 w) (h : SC F src s w) (hg : Good src s) (hsk : SkipR src s t) (hway : SkWay src s t) (hbs : F.fx.base ≤ 1000000) (hec : s.ec ≤ 90000000000) (hch : t.ch = 123) :
    Calls Tryf.prog 11 #[.pointer (some ⟨F.gS, 0, none⟩)] w (ScanPost F src s w) := by
  have hte : t.ec ≤ 90001048576 := by have := hway.ec; have := hway.good.le; have := h.len; omega
  have hlen := h.len
  have hoff := hway.good.le.2.2
  have HSK := Lib.hid (skip_any F src s w h hg (by omega))
  have HGT := Lib.hid hway.good
  have HE := Lib.hid hE
  have HB0 := Lib.hid hb0
  have HS0 := Lib.hid hsk
  have HKP := Lib.hid hsk.kp
  clear h hg hsk hway hE hb0
  go_enter Tryf.func11, Tryf.ntmps11
  go_wp2_with (go_at_call 30; refine Hid.out ?_)
  refine Lib.hid ?_
  refine HSK.out.mono ?_
  rintro e w1 ⟨t', rfl, hsk', _, hs1, hb1⟩
  obtain rfl := hsk'.det HS0.out
  have c0 : w1.cell? ⟨F.gS, 0, none⟩ = some (.pointer (some ⟨F.gF, 0, none⟩)) := by rw [hs1.blkS.cell]; rfl
  have c3 : w1.cell? ⟨F.gS, 3, none⟩ = some (.int .i64 (t'.off : Int)) := by rw [hs1.blkS.cell]; rfl
  have HFS : Hid (∀ n, Calls Tryf.prog 31 #[.pointer (some ⟨F.gF, 0, none⟩), .int .i64 (t'.off : Int)] (w1.drewN n) fun e w' => e = .returned (.int .i64 ((F.fx.base : Int) + (t'.off : Int))) ∧ w' = w1.drewN n) := Lib.hid (fun n => by
    obtain ⟨lv, hlb, _⟩ := (hs1.drewN n).file
    refine (fsp_any F.gF F.fx src.length t'.off lv _ hlb hs1.off hs1.len).mono (fun _ _ ⟨a, b⟩ => ⟨a.trans ?_, b.symm⟩)
    rw [show wrap64 ((F.fx.base : Int) + (t'.off : Int)) = (F.fx.base : Int) + (t'.off : Int) from wrap_small _ (by omega) (by omega)])
  have H1 := Lib.hid hs1
  have B1 := Lib.hid hb1
  clear hs1 hb1 HSK hsk'
  go_wp2_with fail
  go_quiet ((go_at_call 31; exact Calls.quiet_of_same (HFS.out _)))
  have S2 := Lib.hid (H1.out.drewN nq)
  have B2 := Lib.hid (below_drewN0 B1.out nq)
  have d2 : (w1.drewN nq).cell? ⟨F.gS, 2, none⟩ = some (.int .i32 123) := by rw [S2.out.blkS.cell]; show some (Value.int .i32 _) = _; rw [hch]
  clear c0 c3 H1 B1 HFS
  generalize w1.drewN nq = w2 at S2 B2 d2 ⊢

  have HCH := Lib.hid hch
  have hal : asciiLetter 123 = false := by decide
  go_wp2_with (go_at_call 32; refine Hid.out ?_)
  refine Lib.hid ?_
  refine (isLetter_ascii 123 w2 (by omega)).mono ?_
  rintro e w' ⟨rfl, rfl⟩
  rw [hal]
  clear hch hal

  go_wp2_with (go_at_call 37; refine Hid.out ?_)
  refine Lib.hid ?_
  refine (next_any F src t' _ S2.out (by omega)).mono ?_
  rintro e w3 ⟨rfl, hs3, hb3⟩
  obtain ⟨u, hu⟩ : ∃ u, nx src t' = u := ⟨_, rfl⟩
  have hue := nx_ec1 src t'
  rw [hu] at hs3 hue
  have HU := Lib.hid hu
  have S3 := Lib.hid hs3
  have B3 := Lib.hid (B2.out.trans hb3)
  clear hs3 hb3 hu S2 B2 d2
  have HT : Hid (TokR src t' 49 [] (fin false u)) := Lib.hid (TokR.sym (by rw [HCH.out]; rfl) (by unfold numC; rw [HCH.out]; rfl) (by rw [← HU.out]; unfold symT; rw [HCH.out]; rfl))

  have d9 : w3.cell? ⟨F.gS, 9, none⟩ = some (.int .i64 (u).mode) := by rw [S3.out.blkS.cell]; rfl
  have d6 : w3.cell? ⟨F.gS, 6, none⟩ = some (.bool (u).semi) := by rw [S3.out.blkS.cell]; rfl
  have f6 := S3.out.blkS.free 6
  rcases hm : (bits .and .i64 (u).mode 2 == 0) with _ | _
  · have HF := Lib.hid (fin_no (b := false) hm)
    go_wp2_with fail
    go_ret3
    exact ScanPost.of HS0.out HT.out (by rw [HF.out]; exact S3.out) B3.out
  · have HF := Lib.hid (fin_yes (b := false) hm)
    have HSC := Lib.hid (S3.out.setSemi (false))
    have HBC := Lib.hid (B3.out.trans (S3.out.put_below 6 (.bool (false))))
    go_wp2_with fail
    go_ret3
    exact ScanPost.of HS0.out HT.out (by rw [HF.out]; exact HSC.out) HBC.out

set_option maxHeartbeats 8000000 in
theorem scan_c125 (F : Fix) (src : List UInt8) (s t : St) (W0 w : World) (hE : Env F W0) (hb0 : Below F.B W0 w) (h : SC F src s w) (hg : Good src s) (hsk : SkipR src s t) (hway : SkWay src s t) (hbs : F.fx.base ≤ 1000000) (hec : s.ec ≤ 90000000000) (hch : t.ch = 125) :
    Calls Tryf.prog 11 #[.pointer (some ⟨F.gS, 0, none⟩)] w (ScanPost F src s w) := by
  have hte : t.ec ≤ 90001048576 := by have := hway.ec; have := hway.good.le; have := h.len; omega
  have hlen := h.len
  have hoff := hway.good.le.2.2
  have HSK := Lib.hid (skip_any F src s w h hg (by omega))
  have HGT := Lib.hid hway.good
  have HE := Lib.hid hE
  have HB0 := Lib.hid hb0
  have HS0 := Lib.hid hsk
  have HKP := Lib.hid hsk.kp
  clear h hg hsk hway hE hb0
  go_enter Tryf.func11, Tryf.ntmps11
  go_wp2_with (go_at_call 30; refine Hid.out ?_)
  refine Lib.hid ?_
  refine HSK.out.mono ?_
  rintro e w1 ⟨t', rfl, hsk', _, hs1, hb1⟩
  obtain rfl := hsk'.det HS0.out
  have c0 : w1.cell? ⟨F.gS, 0, none⟩ = some (.pointer (some ⟨F.gF, 0, none⟩)) := by rw [hs1.blkS.cell]; rfl
  have c3 : w1.cell? ⟨F.gS, 3, none⟩ = some (.int .i64 (t'.off : Int)) := by rw [hs1.blkS.cell]; rfl
  have HFS : Hid (∀ n, Calls Tryf.prog 31 #[.pointer (some ⟨F.gF, 0, none⟩), .int .i64 (t'.off : Int)] (w1.drewN n) fun e w' => e = .returned (.int .i64 ((F.fx.base : Int) + (t'.off : Int))) ∧ w' = w1.drewN n) := Lib.hid (fun n => by
    obtain ⟨lv, hlb, _⟩ := (hs1.drewN n).file
    refine (fsp_any F.gF F.fx src.length t'.off lv _ hlb hs1.off hs1.len).mono (fun _ _ ⟨a, b⟩ => ⟨a.trans ?_, b.symm⟩)
    rw [show wrap64 ((F.fx.base : Int) + (t'.off : Int)) = (F.fx.base : Int) + (t'.off : Int) from wrap_small _ (by omega) (by omega)])
  have H1 := Lib.hid hs1
  have B1 := Lib.hid hb1
  clear hs1 hb1 HSK hsk'
  go_wp2_with fail
  go_quiet ((go_at_call 31; exact Calls.quiet_of_same (HFS.out _)))
  have S2 := Lib.hid (H1.out.drewN nq)
  have B2 := Lib.hid (below_drewN0 B1.out nq)
  have d2 : (w1.drewN nq).cell? ⟨F.gS, 2, none⟩ = some (.int .i32 125) := by rw [S2.out.blkS.cell]; show some (Value.int .i32 _) = _; rw [hch]
  clear c0 c3 H1 B1 HFS
  generalize w1.drewN nq = w2 at S2 B2 d2 ⊢

  have HCH := Lib.hid hch
  have hal : asciiLetter 125 = false := by decide
  go_wp2_with (go_at_call 32; refine Hid.out ?_)
  refine Lib.hid ?_
  refine (isLetter_ascii 125 w2 (by omega)).mono ?_
  rintro e w' ⟨rfl, rfl⟩
  rw [hal]
  clear hch hal

  go_wp2_with (go_at_call 37; refine Hid.out ?_)
  refine Lib.hid ?_
  refine (next_any F src t' _ S2.out (by omega)).mono ?_
  rintro e w3 ⟨rfl, hs3, hb3⟩
  obtain ⟨u, hu⟩ : ∃ u, nx src t' = u := ⟨_, rfl⟩
  have hue := nx_ec1 src t'
  rw [hu] at hs3 hue
  have HU := Lib.hid hu
  have S3 := Lib.hid hs3
  have B3 := Lib.hid (B2.out.trans hb3)
  clear hs3 hb3 hu S2 B2 d2
  have HT : Hid (TokR src t' 54 [] (fin true u)) := Lib.hid (TokR.sym (by rw [HCH.out]; rfl) (by unfold numC; rw [HCH.out]; rfl) (by rw [← HU.out]; unfold symT; rw [HCH.out]; rfl))

  have d9 : w3.cell? ⟨F.gS, 9, none⟩ = some (.int .i64 (u).mode) := by rw [S3.out.blkS.cell]; rfl
  have d6 : w3.cell? ⟨F.gS, 6, none⟩ = some (.bool (u).semi) := by rw [S3.out.blkS.cell]; rfl
  have f6 := S3.out.blkS.free 6
  rcases hm : (bits .and .i64 (u).mode 2 == 0) with _ | _
  · have HF := Lib.hid (fin_no (b := true) hm)
    go_wp2_with fail
    go_ret3
    exact ScanPost.of HS0.out HT.out (by rw [HF.out]; exact S3.out) B3.out
  · have HF := Lib.hid (fin_yes (b := true) hm)
    have HSC := Lib.hid (S3.out.setSemi (true))
    have HBC := Lib.hid (B3.out.trans (S3.out.put_below 6 (.bool (true))))
    go_wp2_with fail
    go_ret3
    exact ScanPost.of HS0.out HT.out (by rw [HF.out]; exact HSC.out) HBC.out
end Go.Proofs.YtamfekpcoppbgaaFmt
namespace Go.Proofs.YtamfekpcoppbgaaFmt
open Go.RowKit
set_option maxRecDepth 100000
set_option linter.unusedVariables false

set_option maxHeartbeats 8000000 in
theorem scan_c58 (F : Fix) (src : List UInt8) (s t : St) (W0 w : World) (hE : Env F W0) (hb0 : Below F.B W0 w) (h : SC F src s w) (hg : Good src s) (hsk : SkipR src s t) (hway : SkWay src s t) (hbs : F.fx.base ≤ 1000000) (hec : s.ec ≤ 90000000000) (hch : t.ch = 58) :
    Calls Tryf.prog 11 #[.pointer (some ⟨F.gS, 0, none⟩)] w (ScanPost F src s w) := by
  have hte : t.ec ≤ 90001048576 := by have := hway.ec; have := hway.good.le; have := h.len; omega
  have hlen := h.len
  have hoff := hway.good.le.2.2
  have HSK := Lib.hid (skip_any F src s w h hg (by omega))
  have HGT := Lib.hid hway.good
  have HE := Lib.hid hE
  have HB0 := Lib.hid hb0
  have HS0 := Lib.hid hsk
  have HKP := Lib.hid hsk.kp
  clear h hg hsk hway hE hb0
  go_enter Tryf.func11, Tryf.ntmps11
  go_wp2_with (go_at_call 30; refine Hid.out ?_)
  refine Lib.hid ?_
  refine HSK.out.mono ?_
  rintro e w1 ⟨t', rfl, hsk', _, hs1, hb1⟩
  obtain rfl := hsk'.det HS0.out
  have c0 : w1.cell? ⟨F.gS, 0, none⟩ = some (.pointer (some ⟨F.gF, 0, none⟩)) := by rw [hs1.blkS.cell]; rfl
  have c3 : w1.cell? ⟨F.gS, 3, none⟩ = some (.int .i64 (t'.off : Int)) := by rw [hs1.blkS.cell]; rfl
  have HFS : Hid (∀ n, Calls Tryf.prog 31 #[.pointer (some ⟨F.gF, 0, none⟩), .int .i64 (t'.off : Int)] (w1.drewN n) fun e w' => e = .returned (.int .i64 ((F.fx.base : Int) + (t'.off : Int))) ∧ w' = w1.drewN n) := Lib.hid (fun n => by
    obtain ⟨lv, hlb, _⟩ := (hs1.drewN n).file
    refine (fsp_any F.gF F.fx src.length t'.off lv _ hlb hs1.off hs1.len).mono (fun _ _ ⟨a, b⟩ => ⟨a.trans ?_, b.symm⟩)
    rw [show wrap64 ((F.fx.base : Int) + (t'.off : Int)) = (F.fx.base : Int) + (t'.off : Int) from wrap_small _ (by omega) (by omega)])
  have H1 := Lib.hid hs1
  have B1 := Lib.hid hb1
  clear hs1 hb1 HSK hsk'
  go_wp2_with fail
  go_quiet ((go_at_call 31; exact Calls.quiet_of_same (HFS.out _)))
  have S2 := Lib.hid (H1.out.drewN nq)
  have B2 := Lib.hid (below_drewN0 B1.out nq)
  have d2 : (w1.drewN nq).cell? ⟨F.gS, 2, none⟩ = some (.int .i32 58) := by rw [S2.out.blkS.cell]; show some (Value.int .i32 _) = _; rw [hch]
  clear c0 c3 H1 B1 HFS
  generalize w1.drewN nq = w2 at S2 B2 d2 ⊢

  have HCH := Lib.hid hch
  have hal : asciiLetter 58 = false := by decide
  go_wp2_with (go_at_call 32; refine Hid.out ?_)
  refine Lib.hid ?_
  refine (isLetter_ascii 58 w2 (by omega)).mono ?_
  rintro e w' ⟨rfl, rfl⟩
  rw [hal]
  clear hch hal

  go_wp2_with (go_at_call 37; refine Hid.out ?_)
  refine Lib.hid ?_
  refine (next_any F src t' _ S2.out (by omega)).mono ?_
  rintro e w3 ⟨rfl, hs3, hb3⟩
  obtain ⟨u, hu⟩ : ∃ u, nx src t' = u := ⟨_, rfl⟩
  have hue := nx_ec1 src t'
  rw [hu] at hs3 hue
  have HU := Lib.hid hu
  have S3 := Lib.hid hs3
  have B3 := Lib.hid (B2.out.trans hb3)
  clear hs3 hb3 hu S2 B2 d2

  have HT0 : Hid (∀ r, sw2 src u 56 45 = r → TokR src t' r.1 [] (fin false r.2)) := Lib.hid (fun r hr => TokR.sym (by rw [HCH.out]; rfl) (by unfold numC; rw [HCH.out]; rfl) (by rw [← hr, ← HU.out]; unfold symT; rw [HCH.out]; rfl))
  have HSW := Lib.hid (switch2_any F src u 56 45 w3 S3.out (by omega))
  obtain ⟨r, hr⟩ : ∃ r, sw2 src u 56 45 = r := ⟨_, rfl⟩
  have HT := Lib.hid (HT0.out r hr)
  rw [hr] at HSW
  clear hr HT0
  go_wp2_with (go_at_call 41; refine Hid.out ?_)
  refine Lib.hid ?_
  refine HSW.out.mono ?_
  rintro e w4 ⟨rfl, hs4, hb4⟩
  obtain ⟨k, v⟩ := r
  have S4 : Hid (SC F src v w4) := Lib.hid hs4
  have B4 := Lib.hid (B3.out.trans hb4)
  clear hs4 hb4 S3 B3 HSW

  have d9 : w4.cell? ⟨F.gS, 9, none⟩ = some (.int .i64 (v).mode) := by rw [S4.out.blkS.cell]; rfl
  have d6 : w4.cell? ⟨F.gS, 6, none⟩ = some (.bool (v).semi) := by rw [S4.out.blkS.cell]; rfl
  have f6 := S4.out.blkS.free 6
  rcases hm : (bits .and .i64 (v).mode 2 == 0) with _ | _
  · have HF := Lib.hid (fin_no (b := false) hm)
    go_wp2_with fail
    go_ret3
    exact ScanPost.of (k := k) (v := fin false v) HS0.out HT.out (by rw [HF.out]; exact S4.out) B4.out
  · have HF := Lib.hid (fin_yes (b := false) hm)
    have HSC := Lib.hid (S4.out.setSemi (false))
    have HBC := Lib.hid (B4.out.trans (S4.out.put_below 6 (.bool (false))))
    go_wp2_with fail
    go_ret3
    exact ScanPost.of (k := k) (v := fin false v) HS0.out HT.out (by rw [HF.out]; exact HSC.out) HBC.out

set_option maxHeartbeats 8000000 in
theorem scan_c42 (F : Fix) (src : List UInt8) (s t : St) (W0 w : World) (hE : Env F W0) (hb0 : Below F.B W0 w) (h : SC F src s w) (hg : Good src s) (hsk : SkipR src s t) (hway : SkWay src s t) (hbs : F.fx.base ≤ 1000000) (hec : s.ec ≤ 90000000000) (hch : t.ch = 42) :
    Calls Tryf.prog 11 #[.pointer (some ⟨F.gS, 0, none⟩)] w (ScanPost F src s w) := by
  have hte : t.ec ≤ 90001048576 := by have := hway.ec; have := hway.good.le; have := h.len; omega
  have hlen := h.len
  have hoff := hway.good.le.2.2
  have HSK := Lib.hid (skip_any F src s w h hg (by omega))
  have HGT := Lib.hid hway.good
  have HE := Lib.hid hE
  have HB0 := Lib.hid hb0
  have HS0 := Lib.hid hsk
  have HKP := Lib.hid hsk.kp
  clear h hg hsk hway hE hb0
  go_enter Tryf.func11, Tryf.ntmps11
  go_wp2_with (go_at_call 30; refine Hid.out ?_)
  refine Lib.hid ?_
  refine HSK.out.mono ?_
  rintro e w1 ⟨t', rfl, hsk', _, hs1, hb1⟩
  obtain rfl := hsk'.det HS0.out
  have c0 : w1.cell? ⟨F.gS, 0, none⟩ = some (.pointer (some ⟨F.gF, 0, none⟩)) := by rw [hs1.blkS.cell]; rfl
  have c3 : w1.cell? ⟨F.gS, 3, none⟩ = some (.int .i64 (t'.off : Int)) := by rw [hs1.blkS.cell]; rfl
  have HFS : Hid (∀ n, Calls Tryf.prog 31 #[.pointer (some ⟨F.gF, 0, none⟩), .int .i64 (t'.off : Int)] (w1.drewN n) fun e w' => e = .returned (.int .i64 ((F.fx.base : Int) + (t'.off : Int))) ∧ w' = w1.drewN n) := Lib.hid (fun n => by
    obtain ⟨lv, hlb, _⟩ := (hs1.drewN n).file
    refine (fsp_any F.gF F.fx src.length t'.off lv _ hlb hs1.off hs1.len).mono (fun _ _ ⟨a, b⟩ => ⟨a.trans ?_, b.symm⟩)
    rw [show wrap64 ((F.fx.base : Int) + (t'.off : Int)) = (F.fx.base : Int) + (t'.off : Int) from wrap_small _ (by omega) (by omega)])
  have H1 := Lib.hid hs1
  have B1 := Lib.hid hb1
  clear hs1 hb1 HSK hsk'
  go_wp2_with fail
  go_quiet ((go_at_call 31; exact Calls.quiet_of_same (HFS.out _)))
  have S2 := Lib.hid (H1.out.drewN nq)
  have B2 := Lib.hid (below_drewN0 B1.out nq)
  have d2 : (w1.drewN nq).cell? ⟨F.gS, 2, none⟩ = some (.int .i32 42) := by rw [S2.out.blkS.cell]; show some (Value.int .i32 _) = _; rw [hch]
  clear c0 c3 H1 B1 HFS
  generalize w1.drewN nq = w2 at S2 B2 d2 ⊢

  have HCH := Lib.hid hch
  have hal : asciiLetter 42 = false := by decide
  go_wp2_with (go_at_call 32; refine Hid.out ?_)
  refine Lib.hid ?_
  refine (isLetter_ascii 42 w2 (by omega)).mono ?_
  rintro e w' ⟨rfl, rfl⟩
  rw [hal]
  clear hch hal

  go_wp2_with (go_at_call 37; refine Hid.out ?_)
  refine Lib.hid ?_
  refine (next_any F src t' _ S2.out (by omega)).mono ?_
  rintro e w3 ⟨rfl, hs3, hb3⟩
  obtain ⟨u, hu⟩ : ∃ u, nx src t' = u := ⟨_, rfl⟩
  have hue := nx_ec1 src t'
  rw [hu] at hs3 hue
  have HU := Lib.hid hu
  have S3 := Lib.hid hs3
  have B3 := Lib.hid (B2.out.trans hb3)
  clear hs3 hb3 hu S2 B2 d2

  have HT0 : Hid (∀ r, sw2 src u 13 24 = r → TokR src t' r.1 [] (fin false r.2)) := Lib.hid (fun r hr => TokR.sym (by rw [HCH.out]; rfl) (by unfold numC; rw [HCH.out]; rfl) (by rw [← hr, ← HU.out]; unfold symT; rw [HCH.out]; rfl))
  have HSW := Lib.hid (switch2_any F src u 13 24 w3 S3.out (by omega))
  obtain ⟨r, hr⟩ : ∃ r, sw2 src u 13 24 = r := ⟨_, rfl⟩
  have HT := Lib.hid (HT0.out r hr)
  rw [hr] at HSW
  clear hr HT0
  go_wp2_with (go_at_call 41; refine Hid.out ?_)
  refine Lib.hid ?_
  refine HSW.out.mono ?_
  rintro e w4 ⟨rfl, hs4, hb4⟩
  obtain ⟨k, v⟩ := r
  have S4 : Hid (SC F src v w4) := Lib.hid hs4
  have B4 := Lib.hid (B3.out.trans hb4)
  clear hs4 hb4 S3 B3 HSW

  have d9 : w4.cell? ⟨F.gS, 9, none⟩ = some (.int .i64 (v).mode) := by rw [S4.out.blkS.cell]; rfl
  have d6 : w4.cell? ⟨F.gS, 6, none⟩ = some (.bool (v).semi) := by rw [S4.out.blkS.cell]; rfl
  have f6 := S4.out.blkS.free 6
  rcases hm : (bits .and .i64 (v).mode 2 == 0) with _ | _
  · have HF := Lib.hid (fin_no (b := false) hm)
    go_wp2_with fail
    go_ret3
    exact ScanPost.of (k := k) (v := fin false v) HS0.out HT.out (by rw [HF.out]; exact S4.out) B4.out
  · have HF := Lib.hid (fin_yes (b := false) hm)
    have HSC := Lib.hid (S4.out.setSemi (false))
    have HBC := Lib.hid (B4.out.trans (S4.out.put_below 6 (.bool (false))))
    go_wp2_with fail
    go_ret3
    exact ScanPost.of (k := k) (v := fin false v) HS0.out HT.out (by rw [HF.out]; exact HSC.out) HBC.out

set_option maxHeartbeats 8000000 in
theorem scan_c37 (F : Fix) (src : List UInt8) (s t : St) (W0 w : World) (hE : Env F W0) (hb0 : Below F.B W0 w) (h : SC F src s w) (hg : Good src s) (hsk : SkipR src s t) (hway : SkWay src s t) (hbs : F.fx.base ≤ 1000000) (hec : s.ec ≤ 90000000000) (hch : t.ch = 37) :
    Calls Tryf.prog 11 #[.pointer (some ⟨F.gS, 0, none⟩)] w (ScanPost F src s w) := by
  have hte : t.ec ≤ 90001048576 := by have := hway.ec; have := hway.good.le; have := h.len; omega
  have hlen := h.len
  have hoff := hway.good.le.2.2
  have HSK := Lib.hid (skip_any F src s w h hg (by omega))
  have HGT := Lib.hid hway.good
  have HE := Lib.hid hE
  have HB0 := Lib.hid hb0
  have HS0 := Lib.hid hsk
  have HKP := Lib.hid hsk.kp
  clear h hg hsk hway hE hb0
  go_enter Tryf.func11, Tryf.ntmps11
  go_wp2_with (go_at_call 30; refine Hid.out ?_)
  refine Lib.hid ?_
  refine HSK.out.mono ?_
  rintro e w1 ⟨t', rfl, hsk', _, hs1, hb1⟩
  obtain rfl := hsk'.det HS0.out
  have c0 : w1.cell? ⟨F.gS, 0, none⟩ = some (.pointer (some ⟨F.gF, 0, none⟩)) := by rw [hs1.blkS.cell]; rfl
  have c3 : w1.cell? ⟨F.gS, 3, none⟩ = some (.int .i64 (t'.off : Int)) := by rw [hs1.blkS.cell]; rfl
  have HFS : Hid (∀ n, Calls Tryf.prog 31 #[.pointer (some ⟨F.gF, 0, none⟩), .int .i64 (t'.off : Int)] (w1.drewN n) fun e w' => e = .returned (.int .i64 ((F.fx.base : Int) + (t'.off : Int))) ∧ w' = w1.drewN n) := Lib.hid (fun n => by
    obtain ⟨lv, hlb, _⟩ := (hs1.drewN n).file
    refine (fsp_any F.gF F.fx src.length t'.off lv _ hlb hs1.off hs1.len).mono (fun _ _ ⟨a, b⟩ => ⟨a.trans ?_, b.symm⟩)
    rw [show wrap64 ((F.fx.base : Int) + (t'.off : Int)) = (F.fx.base : Int) + (t'.off : Int) from wrap_small _ (by omega) (by omega)])
  have H1 := Lib.hid hs1
  have B1 := Lib.hid hb1
  clear hs1 hb1 HSK hsk'
  go_wp2_with fail
  go_quiet ((go_at_call 31; exact Calls.quiet_of_same (HFS.out _)))
  have S2 := Lib.hid (H1.out.drewN nq)
  have B2 := Lib.hid (below_drewN0 B1.out nq)
  have d2 : (w1.drewN nq).cell? ⟨F.gS, 2, none⟩ = some (.int .i32 37) := by rw [S2.out.blkS.cell]; show some (Value.int .i32 _) = _; rw [hch]
  clear c0 c3 H1 B1 HFS
  generalize w1.drewN nq = w2 at S2 B2 d2 ⊢

  have HCH := Lib.hid hch
  have hal : asciiLetter 37 = false := by decide
  go_wp2_with (go_at_call 32; refine Hid.out ?_)
  refine Lib.hid ?_
  refine (isLetter_ascii 37 w2 (by omega)).mono ?_
  rintro e w' ⟨rfl, rfl⟩
  rw [hal]
  clear hch hal

  go_wp2_with (go_at_call 37; refine Hid.out ?_)
  refine Lib.hid ?_
  refine (next_any F src t' _ S2.out (by omega)).mono ?_
  rintro e w3 ⟨rfl, hs3, hb3⟩
  obtain ⟨u, hu⟩ : ∃ u, nx src t' = u := ⟨_, rfl⟩
  have hue := nx_ec1 src t'
  rw [hu] at hs3 hue
  have HU := Lib.hid hu
  have S3 := Lib.hid hs3
  have B3 := Lib.hid (B2.out.trans hb3)
  clear hs3 hb3 hu S2 B2 d2

  have HT0 : Hid (∀ r, sw2 src u 15 26 = r → TokR src t' r.1 [] (fin false r.2)) := Lib.hid (fun r hr => TokR.sym (by rw [HCH.out]; rfl) (by unfold numC; rw [HCH.out]; rfl) (by rw [← hr, ← HU.out]; unfold symT; rw [HCH.out]; rfl))
  have HSW := Lib.hid (switch2_any F src u 15 26 w3 S3.out (by omega))
  obtain ⟨r, hr⟩ : ∃ r, sw2 src u 15 26 = r := ⟨_, rfl⟩
  have HT := Lib.hid (HT0.out r hr)
  rw [hr] at HSW
  clear hr HT0
  go_wp2_with (go_at_call 41; refine Hid.out ?_)
  refine Lib.hid ?_
  refine HSW.out.mono ?_
  rintro e w4 ⟨rfl, hs4, hb4⟩
  obtain ⟨k, v⟩ := r
  have S4 : Hid (SC F src v w4) := Lib.hid hs4
  have B4 := Lib.hid (B3.out.trans hb4)
  clear hs4 hb4 S3 B3 HSW

  have d9 : w4.cell? ⟨F.gS, 9, none⟩ = some (.int .i64 (v).mode) := by rw [S4.out.blkS.cell]; rfl
  have d6 : w4.cell? ⟨F.gS, 6, none⟩ = some (.bool (v).semi) := by rw [S4.out.blkS.cell]; rfl
  have f6 := S4.out.blkS.free 6
  rcases hm : (bits .and .i64 (v).mode 2 == 0) with _ | _
  · have HF := Lib.hid (fin_no (b := false) hm)
    go_wp2_with fail
    go_ret3
    exact ScanPost.of (k := k) (v := fin false v) HS0.out HT.out (by rw [HF.out]; exact S4.out) B4.out
  · have HF := Lib.hid (fin_yes (b := false) hm)
    have HSC := Lib.hid (S4.out.setSemi (false))
    have HBC := Lib.hid (B4.out.trans (S4.out.put_below 6 (.bool (false))))
    go_wp2_with fail
    go_ret3
    exact ScanPost.of (k := k) (v := fin false v) HS0.out HT.out (by rw [HF.out]; exact HSC.out) HBC.out

set_option maxHeartbeats 8000000 in
theorem scan_c94 (F : Fix) (src : List UInt8) (s t : St) (W0 w : World) (hE : Env F W0) (hb0 : Below F.B W0 w) (h : SC F src s w) (hg : Good src s) (hsk : SkipR src s t) (hway : SkWay src s t) (hbs : F.fx.base ≤ 1000000) (hec : s.ec ≤ 90000000000) (hch : t.ch = 94) :
    Calls Tryf.prog 11 #[.pointer (some ⟨F.gS, 0, none⟩)] w (ScanPost F src s w) := by
  have hte : t.ec ≤ 90001048576 := by have := hway.ec; have := hway.good.le; have := h.len; omega
  have hlen := h.len
  have hoff := hway.good.le.2.2
  have HSK := Lib.hid (skip_any F src s w h hg (by omega))
  have HGT := Lib.hid hway.good
  have HE := Lib.hid hE
  have HB0 := Lib.hid hb0
  have HS0 := Lib.hid hsk
  have HKP := Lib.hid hsk.kp
  clear h hg hsk hway hE hb0
  go_enter Tryf.func11, Tryf.ntmps11
  go_wp2_with (go_at_call 30; refine Hid.out ?_)
  refine Lib.hid ?_
  refine HSK.out.mono ?_
  rintro e w1 ⟨t', rfl, hsk', _, hs1, hb1⟩
  obtain rfl := hsk'.det HS0.out
  have c0 : w1.cell? ⟨F.gS, 0, none⟩ = some (.pointer (some ⟨F.gF, 0, none⟩)) := by rw [hs1.blkS.cell]; rfl
  have c3 : w1.cell? ⟨F.gS, 3, none⟩ = some (.int .i64 (t'.off : Int)) := by rw [hs1.blkS.cell]; rfl
  have HFS : Hid (∀ n, Calls Tryf.prog 31 #[.pointer (some ⟨F.gF, 0, none⟩), .int .i64 (t'.off : Int)] (w1.drewN n) fun e w' => e = .returned (.int .i64 ((F.fx.base : Int) + (t'.off : Int))) ∧ w' = w1.drewN n) := Lib.hid (fun n => by
    obtain ⟨lv, hlb, _⟩ := (hs1.drewN n).file
    refine (fsp_any F.gF F.fx src.length t'.off lv _ hlb hs1.off hs1.len).mono (fun _ _ ⟨a, b⟩ => ⟨a.trans ?_, b.symm⟩)
    rw [show wrap64 ((F.fx.base : Int) + (t'.off : Int)) = (F.fx.base : Int) + (t'.off : Int) from wrap_small _ (by omega) (by omega)])
  have H1 := Lib.hid hs1
  have B1 := Lib.hid hb1
  clear hs1 hb1 HSK hsk'
  go_wp2_with fail
  go_quiet ((go_at_call 31; exact Calls.quiet_of_same (HFS.out _)))
  have S2 := Lib.hid (H1.out.drewN nq)
  have B2 := Lib.hid (below_drewN0 B1.out nq)
  have d2 : (w1.drewN nq).cell? ⟨F.gS, 2, none⟩ = some (.int .i32 94) := by rw [S2.out.blkS.cell]; show some (Value.int .i32 _) = _; rw [hch]
  clear c0 c3 H1 B1 HFS
  generalize w1.drewN nq = w2 at S2 B2 d2 ⊢

  have HCH := Lib.hid hch
  have hal : asciiLetter 94 = false := by decide
  go_wp2_with (go_at_call 32; refine Hid.out ?_)
  refine Lib.hid ?_
  refine (isLetter_ascii 94 w2 (by omega)).mono ?_
  rintro e w' ⟨rfl, rfl⟩
  rw [hal]
  clear hch hal

  go_wp2_with (go_at_call 37; refine Hid.out ?_)
  refine Lib.hid ?_
  refine (next_any F src t' _ S2.out (by omega)).mono ?_
  rintro e w3 ⟨rfl, hs3, hb3⟩
  obtain ⟨u, hu⟩ : ∃ u, nx src t' = u := ⟨_, rfl⟩
  have hue := nx_ec1 src t'
  rw [hu] at hs3 hue
  have HU := Lib.hid hu
  have S3 := Lib.hid hs3
  have B3 := Lib.hid (B2.out.trans hb3)
  clear hs3 hb3 hu S2 B2 d2

  have HT0 : Hid (∀ r, sw2 src u 18 29 = r → TokR src t' r.1 [] (fin false r.2)) := Lib.hid (fun r hr => TokR.sym (by rw [HCH.out]; rfl) (by unfold numC; rw [HCH.out]; rfl) (by rw [← hr, ← HU.out]; unfold symT; rw [HCH.out]; rfl))
  have HSW := Lib.hid (switch2_any F src u 18 29 w3 S3.out (by omega))
  obtain ⟨r, hr⟩ : ∃ r, sw2 src u 18 29 = r := ⟨_, rfl⟩
  have HT := Lib.hid (HT0.out r hr)
  rw [hr] at HSW
  clear hr HT0
  go_wp2_with (go_at_call 41; refine Hid.out ?_)
  refine Lib.hid ?_
  refine HSW.out.mono ?_
  rintro e w4 ⟨rfl, hs4, hb4⟩
  obtain ⟨k, v⟩ := r
  have S4 : Hid (SC F src v w4) := Lib.hid hs4
  have B4 := Lib.hid (B3.out.trans hb4)
  clear hs4 hb4 S3 B3 HSW

  have d9 : w4.cell? ⟨F.gS, 9, none⟩ = some (.int .i64 (v).mode) := by rw [S4.out.blkS.cell]; rfl
  have d6 : w4.cell? ⟨F.gS, 6, none⟩ = some (.bool (v).semi) := by rw [S4.out.blkS.cell]; rfl
  have f6 := S4.out.blkS.free 6
  rcases hm : (bits .and .i64 (v).mode 2 == 0) with _ | _
  · have HF := Lib.hid (fin_no (b := false) hm)
    go_wp2_with fail
    go_ret3
    exact ScanPost.of (k := k) (v := fin false v) HS0.out HT.out (by rw [HF.out]; exact S4.out) B4.out
  · have HF := Lib.hid (fin_yes (b := false) hm)
    have HSC := Lib.hid (S4.out.setSemi (false))
    have HBC := Lib.hid (B4.out.trans (S4.out.put_below 6 (.bool (false))))
    go_wp2_with fail
    go_ret3
    exact ScanPost.of (k := k) (v := fin false v) HS0.out HT.out (by rw [HF.out]; exact HSC.out) HBC.out

set_option maxHeartbeats 8000000 in
theorem scan_c61 (F : Fix) (src : List UInt8) (s t : St) (W0 w : World) (hE : Env F W0) (hb0 : Below F.B W0 w) (h : SC F src s w) (hg : Good src s) (hsk : SkipR src s t) (hway : SkWay src s t) (hbs : F.fx.base ≤ 1000000) (hec : s.ec ≤ 90000000000) (hch : t.ch = 61) :
    Calls Tryf.prog 11 #[.pointer (some ⟨F.gS, 0, none⟩)] w (ScanPost F src s w) := by
  have hte : t.ec ≤ 90001048576 := by have := hway.ec; have := hway.good.le; have := h.len; omega
  have hlen := h.len
  have hoff := hway.good.le.2.2
  have HSK := Lib.hid (skip_any F src s w h hg (by omega))
  have HGT := Lib.hid hway.good
  have HE := Lib.hid hE
  have HB0 := Lib.hid hb0
  have HS0 := Lib.hid hsk
  have HKP := Lib.hid hsk.kp
  clear h hg hsk hway hE hb0
  go_enter Tryf.func11, Tryf.ntmps11
  go_wp2_with (go_at_call 30; refine Hid.out ?_)
  refine Lib.hid ?_
  refine HSK.out.mono ?_
  rintro e w1 ⟨t', rfl, hsk', _, hs1, hb1⟩
  obtain rfl := hsk'.det HS0.out
  have c0 : w1.cell? ⟨F.gS, 0, none⟩ = some (.pointer (some ⟨F.gF, 0, none⟩)) := by rw [hs1.blkS.cell]; rfl
  have c3 : w1.cell? ⟨F.gS, 3, none⟩ = some (.int .i64 (t'.off : Int)) := by rw [hs1.blkS.cell]; rfl
  have HFS : Hid (∀ n, Calls Tryf.prog 31 #[.pointer (some ⟨F.gF, 0, none⟩), .int .i64 (t'.off : Int)] (w1.drewN n) fun e w' => e = .returned (.int .i64 ((F.fx.base : Int) + (t'.off : Int))) ∧ w' = w1.drewN n) := Lib.hid (fun n => by
    obtain ⟨lv, hlb, _⟩ := (hs1.drewN n).file
    refine (fsp_any F.gF F.fx src.length t'.off lv _ hlb hs1.off hs1.len).mono (fun _ _ ⟨a, b⟩ => ⟨a.trans ?_, b.symm⟩)
    rw [show wrap64 ((F.fx.base : Int) + (t'.off : Int)) = (F.fx.base : Int) + (t'.off : Int) from wrap_small _ (by omega) (by omega)])
  have H1 := Lib.hid hs1
  have B1 := Lib.hid hb1
  clear hs1 hb1 HSK hsk'
  go_wp2_with fail
  go_quiet ((go_at_call 31; exact Calls.quiet_of_same (HFS.out _)))
  have S2 := Lib.hid (H1.out.drewN nq)
  have B2 := Lib.hid (below_drewN0 B1.out nq)
  have d2 : (w1.drewN nq).cell? ⟨F.gS, 2, none⟩ = some (.int .i32 61) := by rw [S2.out.blkS.cell]; show some (Value.int .i32 _) = _; rw [hch]
  clear c0 c3 H1 B1 HFS
  generalize w1.drewN nq = w2 at S2 B2 d2 ⊢

  have HCH := Lib.hid hch
  have hal : asciiLetter 61 = false := by decide
  go_wp2_with (go_at_call 32; refine Hid.out ?_)
  refine Lib.hid ?_
  refine (isLetter_ascii 61 w2 (by omega)).mono ?_
  rintro e w' ⟨rfl, rfl⟩
  rw [hal]
  clear hch hal

  go_wp2_with (go_at_call 37; refine Hid.out ?_)
  refine Lib.hid ?_
  refine (next_any F src t' _ S2.out (by omega)).mono ?_
  rintro e w3 ⟨rfl, hs3, hb3⟩
  obtain ⟨u, hu⟩ : ∃ u, nx src t' = u := ⟨_, rfl⟩
  have hue := nx_ec1 src t'
  rw [hu] at hs3 hue
  have HU := Lib.hid hu
  have S3 := Lib.hid hs3
  have B3 := Lib.hid (B2.out.trans hb3)
  clear hs3 hb3 hu S2 B2 d2

  have HT0 : Hid (∀ r, sw2 src u 40 37 = r → TokR src t' r.1 [] (fin false r.2)) := Lib.hid (fun r hr => TokR.sym (by rw [HCH.out]; rfl) (by unfold numC; rw [HCH.out]; rfl) (by rw [← hr, ← HU.out]; unfold symT; rw [HCH.out]; rfl))
  have HSW := Lib.hid (switch2_any F src u 40 37 w3 S3.out (by omega))
  obtain ⟨r, hr⟩ : ∃ r, sw2 src u 40 37 = r := ⟨_, rfl⟩
  have HT := Lib.hid (HT0.out r hr)
  rw [hr] at HSW
  clear hr HT0
  go_wp2_with (go_at_call 41; refine Hid.out ?_)
  refine Lib.hid ?_
  refine HSW.out.mono ?_
  rintro e w4 ⟨rfl, hs4, hb4⟩
  obtain ⟨k, v⟩ := r
  have S4 : Hid (SC F src v w4) := Lib.hid hs4
  have B4 := Lib.hid (B3.out.trans hb4)
  clear hs4 hb4 S3 B3 HSW

  have d9 : w4.cell? ⟨F.gS, 9, none⟩ = some (.int .i64 (v).mode) := by rw [S4.out.blkS.cell]; rfl
  have d6 : w4.cell? ⟨F.gS, 6, none⟩ = some (.bool (v).semi) := by rw [S4.out.blkS.cell]; rfl
  have f6 := S4.out.blkS.free 6
  rcases hm : (bits .and .i64 (v).mode 2 == 0) with _ | _
  · have HF := Lib.hid (fin_no (b := false) hm)
    go_wp2_with fail
    go_ret3
    exact ScanPost.of (k := k) (v := fin false v) HS0.out HT.out (by rw [HF.out]; exact S4.out) B4.out
  · have HF := Lib.hid (fin_yes (b := false) hm)
    have HSC := Lib.hid (S4.out.setSemi (false))
    have HBC := Lib.hid (B4.out.trans (S4.out.put_below 6 (.bool (false))))
    go_wp2_with fail
    go_ret3
    exact ScanPost.of (k := k) (v := fin false v) HS0.out HT.out (by rw [HF.out]; exact HSC.out) HBC.out

set_option maxHeartbeats 8000000 in
theorem scan_c33 (F : Fix) (src : List UInt8) (s t : St) (W0 w : World) (hE : Env F W0) (hb0 : Below F.B W0 w) (h : SC F src s w) (hg : Good src s) (hsk : SkipR src s t) (hway : SkWay src s t) (hbs : F.fx.base ≤ 1000000) (hec : s.ec ≤ 90000000000) (hch : t.ch = 33) :
    Calls Tryf.prog 11 #[.pointer (some ⟨F.gS, 0, none⟩)] w (ScanPost F src s w) := by
  have hte : t.ec ≤ 90001048576 := by have := hway.ec; have := hway.good.le; have := h.len; omega
  have hlen := h.len
  have hoff := hway.good.le.2.2
  have HSK := Lib.hid (skip_any F src s w h hg (by omega))
  have HGT := Lib.hid hway.good
  have HE := Lib.hid hE
  have HB0 := Lib.hid hb0
  have HS0 := Lib.hid hsk
  have HKP := Lib.hid hsk.kp
  clear h hg hsk hway hE hb0
  go_enter Tryf.func11, Tryf.ntmps11
  go_wp2_with (go_at_call 30; refine Hid.out ?_)
  refine Lib.hid ?_
  refine HSK.out.mono ?_
  rintro e w1 ⟨t', rfl, hsk', _, hs1, hb1⟩
  obtain rfl := hsk'.det HS0.out
  have c0 : w1.cell? ⟨F.gS, 0, none⟩ = some (.pointer (some ⟨F.gF, 0, none⟩)) := by rw [hs1.blkS.cell]; rfl
  have c3 : w1.cell? ⟨F.gS, 3, none⟩ = some (.int .i64 (t'.off : Int)) := by rw [hs1.blkS.cell]; rfl
  have HFS : Hid (∀ n, Calls Tryf.prog 31 #[.pointer (some ⟨F.gF, 0, none⟩), .int .i64 (t'.off : Int)] (w1.drewN n) fun e w' => e = .returned (.int .i64 ((F.fx.base : Int) + (t'.off : Int))) ∧ w' = w1.drewN n) := Lib.hid (fun n => by
    obtain ⟨lv, hlb, _⟩ := (hs1.drewN n).file
    refine (fsp_any F.gF F.fx src.length t'.off lv _ hlb hs1.off hs1.len).mono (fun _ _ ⟨a, b⟩ => ⟨a.trans ?_, b.symm⟩)
    rw [show wrap64 ((F.fx.base : Int) + (t'.off : Int)) = (F.fx.base : Int) + (t'.off : Int) from wrap_small _ (by omega) (by omega)])
  have H1 := Lib.hid hs1
  have B1 := Lib.hid hb1
  clear hs1 hb1 HSK hsk'
  go_wp2_with fail
  go_quiet ((go_at_call 31; exact Calls.quiet_of_same (HFS.out _)))
  have S2 := Lib.hid (H1.out.drewN nq)
  have B2 := Lib.hid (below_drewN0 B1.out nq)
  have d2 : (w1.drewN nq).cell? ⟨F.gS, 2, none⟩ = some (.int .i32 33) := by rw [S2.out.blkS.cell]; show some (Value.int .i32 _) = _; rw [hch]
  clear c0 c3 H1 B1 HFS
  generalize w1.drewN nq = w2 at S2 B2 d2 ⊢

  have HCH := Lib.hid hch
  have hal : asciiLetter 33 = false := by decide
  go_wp2_with (go_at_call 32; refine Hid.out ?_)
  refine Lib.hid ?_
  refine (isLetter_ascii 33 w2 (by omega)).mono ?_
  rintro e w' ⟨rfl, rfl⟩
  rw [hal]
  clear hch hal

  go_wp2_with (go_at_call 37; refine Hid.out ?_)
  refine Lib.hid ?_
  refine (next_any F src t' _ S2.out (by omega)).mono ?_
  rintro e w3 ⟨rfl, hs3, hb3⟩
  obtain ⟨u, hu⟩ : ∃ u, nx src t' = u := ⟨_, rfl⟩
  have hue := nx_ec1 src t'
  rw [hu] at hs3 hue
  have HU := Lib.hid hu
  have S3 := Lib.hid hs3
  have B3 := Lib.hid (B2.out.trans hb3)
  clear hs3 hb3 hu S2 B2 d2

  have HT0 : Hid (∀ r, sw2 src u 41 42 = r → TokR src t' r.1 [] (fin false r.2)) := Lib.hid (fun r hr => TokR.sym (by rw [HCH.out]; rfl) (by unfold numC; rw [HCH.out]; rfl) (by rw [← hr, ← HU.out]; unfold symT; rw [HCH.out]; rfl))
  have HSW := Lib.hid (switch2_any F src u 41 42 w3 S3.out (by omega))
  obtain ⟨r, hr⟩ : ∃ r, sw2 src u 41 42 = r := ⟨_, rfl⟩
  have HT := Lib.hid (HT0.out r hr)
  rw [hr] at HSW
  clear hr HT0
  go_wp2_with (go_at_call 41; refine Hid.out ?_)
  refine Lib.hid ?_
  refine HSW.out.mono ?_
  rintro e w4 ⟨rfl, hs4, hb4⟩
  obtain ⟨k, v⟩ := r
  have S4 : Hid (SC F src v w4) := Lib.hid hs4
  have B4 := Lib.hid (B3.out.trans hb4)
  clear hs4 hb4 S3 B3 HSW

  have d9 : w4.cell? ⟨F.gS, 9, none⟩ = some (.int .i64 (v).mode) := by rw [S4.out.blkS.cell]; rfl
  have d6 : w4.cell? ⟨F.gS, 6, none⟩ = some (.bool (v).semi) := by rw [S4.out.blkS.cell]; rfl
  have f6 := S4.out.blkS.free 6
  rcases hm : (bits .and .i64 (v).mode 2 == 0) with _ | _
  · have HF := Lib.hid (fin_no (b := false) hm)
    go_wp2_with fail
    go_ret3
    exact ScanPost.of (k := k) (v := fin false v) HS0.out HT.out (by rw [HF.out]; exact S4.out) B4.out
  · have HF := Lib.hid (fin_yes (b := false) hm)
    have HSC := Lib.hid (S4.out.setSemi (false))
    have HBC := Lib.hid (B4.out.trans (S4.out.put_below 6 (.bool (false))))
    go_wp2_with fail
    go_ret3
    exact ScanPost.of (k := k) (v := fin false v) HS0.out HT.out (by rw [HF.out]; exact HSC.out) HBC.out
end Go.Proofs.YtamfekpcoppbgaaFmt
namespace Go.Proofs.YtamfekpcoppbgaaFmt
open Go.RowKit
set_option maxRecDepth 100000
set_option linter.unusedVariables false

set_option maxHeartbeats 8000000 in
theorem scan_c43 (F : Fix) (src : List UInt8) (s t : St) (W0 w : World) (hE : Env F W0) (hb0 : Below F.B W0 w) (h : SC F src s w) (hg : Good src s) (hsk : SkipR src s t) (hway : SkWay src s t) (hbs : F.fx.base ≤ 1000000) (hec : s.ec ≤ 90000000000) (hch : t.ch = 43) :
    Calls Tryf.prog 11 #[.pointer (some ⟨F.gS, 0, none⟩)] w (ScanPost F src s w) := by
  have hte : t.ec ≤ 90001048576 := by have := hway.ec; have := hway.good.le; have := h.len; omega
  have hlen := h.len
  have hoff := hway.good.le.2.2
  have HSK := Lib.hid (skip_any F src s w h hg (by omega))
  have HGT := Lib.hid hway.good
  have HE := Lib.hid hE
  have HB0 := Lib.hid hb0
  have HS0 := Lib.hid hsk
  have HKP := Lib.hid hsk.kp
  clear h hg hsk hway hE hb0
  go_enter Tryf.func11, Tryf.ntmps11
  go_wp2_with (go_at_call 30; refine Hid.out ?_)
  refine Lib.hid ?_
  refine HSK.out.mono ?_
  rintro e w1 ⟨t', rfl, hsk', _, hs1, hb1⟩
  obtain rfl := hsk'.det HS0.out
  have c0 : w1.cell? ⟨F.gS, 0, none⟩ = some (.pointer (some ⟨F.gF, 0, none⟩)) := by rw [hs1.blkS.cell]; rfl
  have c3 : w1.cell? ⟨F.gS, 3, none⟩ = some (.int .i64 (t'.off : Int)) := by rw [hs1.blkS.cell]; rfl
  have HFS : Hid (∀ n, Calls Tryf.prog 31 #[.pointer (some ⟨F.gF, 0, none⟩), .int .i64 (t'.off : Int)] (w1.drewN n) fun e w' => e = .returned (.int .i64 ((F.fx.base : Int) + (t'.off : Int))) ∧ w' = w1.drewN n) := Lib.hid (fun n => by
    obtain ⟨lv, hlb, _⟩ := (hs1.drewN n).file
    refine (fsp_any F.gF F.fx src.length t'.off lv _ hlb hs1.off hs1.len).mono (fun _ _ ⟨a, b⟩ => ⟨a.trans ?_, b.symm⟩)
    rw [show wrap64 ((F.fx.base : Int) + (t'.off : Int)) = (F.fx.base : Int) + (t'.off : Int) from wrap_small _ (by omega) (by omega)])
  have H1 := Lib.hid hs1
  have B1 := Lib.hid hb1
  clear hs1 hb1 HSK hsk'
  go_wp2_with fail
  go_quiet ((go_at_call 31; exact Calls.quiet_of_same (HFS.out _)))
  have S2 := Lib.hid (H1.out.drewN nq)
  have B2 := Lib.hid (below_drewN0 B1.out nq)
  have d2 : (w1.drewN nq).cell? ⟨F.gS, 2, none⟩ = some (.int .i32 43) := by rw [S2.out.blkS.cell]; show some (Value.int .i32 _) = _; rw [hch]
  clear c0 c3 H1 B1 HFS
  generalize w1.drewN nq = w2 at S2 B2 d2 ⊢

  have HCH := Lib.hid hch
  have hal : asciiLetter 43 = false := by decide
  go_wp2_with (go_at_call 32; refine Hid.out ?_)
  refine Lib.hid ?_
  refine (isLetter_ascii 43 w2 (by omega)).mono ?_
  rintro e w' ⟨rfl, rfl⟩
  rw [hal]
  clear hch hal

  go_wp2_with (go_at_call 37; refine Hid.out ?_)
  refine Lib.hid ?_
  refine (next_any F src t' _ S2.out (by omega)).mono ?_
  rintro e w3 ⟨rfl, hs3, hb3⟩
  obtain ⟨u, hu⟩ : ∃ u, nx src t' = u := ⟨_, rfl⟩
  have hue := nx_ec1 src t'
  rw [hu] at hs3 hue
  have HU := Lib.hid hu
  have S3 := Lib.hid hs3
  have B3 := Lib.hid (B2.out.trans hb3)
  clear hs3 hb3 hu S2 B2 d2

  have HT0 : Hid (∀ r, sw3 src u 11 22 43 35 = r → TokR src t' r.1 [] (fin (r.1 == 35) r.2)) := Lib.hid (fun r hr => TokR.sym (by rw [HCH.out]; rfl) (by unfold numC; rw [HCH.out]; rfl) (by rw [← hr, ← HU.out]; unfold symT; rw [HCH.out]; rfl))
  have HSW := Lib.hid (switch3_any F src u 11 22 43 35 w3 S3.out (by omega))
  obtain ⟨r, hr⟩ : ∃ r, sw3 src u 11 22 43 35 = r := ⟨_, rfl⟩
  have HT := Lib.hid (HT0.out r hr)
  rw [hr] at HSW
  clear hr HT0
  go_wp2_with (go_at_call 42; refine Hid.out ?_)
  refine Lib.hid ?_
  refine HSW.out.mono ?_
  rintro e w4 ⟨rfl, hs4, hb4⟩
  obtain ⟨k, v⟩ := r
  have S4 : Hid (SC F src v w4) := Lib.hid hs4
  have B4 := Lib.hid (B3.out.trans hb4)
  clear hs4 hb4 S3 B3 HSW

  rcases hq : (k == 35) with _ | _
  · have HTQ : Hid (TokR src t' k [] (fin false v)) := Lib.hid (by have := HT.out; simp only [hq] at this; exact this)
    have d9 : w4.cell? ⟨F.gS, 9, none⟩ = some (.int .i64 (v).mode) := by rw [S4.out.blkS.cell]; rfl
    have d6 : w4.cell? ⟨F.gS, 6, none⟩ = some (.bool (v).semi) := by rw [S4.out.blkS.cell]; rfl
    have f6 := S4.out.blkS.free 6
    rcases hm : (bits .and .i64 (v).mode 2 == 0) with _ | _
    · have HF := Lib.hid (fin_no (b := false) hm)
      go_wp2_with fail
      go_ret3
      exact ScanPost.of (k := k) HS0.out HTQ.out (by rw [HF.out]; exact S4.out) B4.out
    · have HF := Lib.hid (fin_yes (b := false) hm)
      have HSC := Lib.hid (S4.out.setSemi (false))
      have HBC := Lib.hid (B4.out.trans (S4.out.put_below 6 (.bool (false))))
      go_wp2_with fail
      go_ret3
      exact ScanPost.of (k := k) HS0.out HTQ.out (by rw [HF.out]; exact HSC.out) HBC.out
  · have HTQ : Hid (TokR src t' k [] (fin true v)) := Lib.hid (by have := HT.out; simp only [hq] at this; exact this)
    have d9 : w4.cell? ⟨F.gS, 9, none⟩ = some (.int .i64 (v).mode) := by rw [S4.out.blkS.cell]; rfl
    have d6 : w4.cell? ⟨F.gS, 6, none⟩ = some (.bool (v).semi) := by rw [S4.out.blkS.cell]; rfl
    have f6 := S4.out.blkS.free 6
    rcases hm : (bits .and .i64 (v).mode 2 == 0) with _ | _
    · have HF := Lib.hid (fin_no (b := true) hm)
      go_wp2_with fail
      go_ret3
      exact ScanPost.of (k := k) HS0.out HTQ.out (by rw [HF.out]; exact S4.out) B4.out
    · have HF := Lib.hid (fin_yes (b := true) hm)
      have HSC := Lib.hid (S4.out.setSemi (true))
      have HBC := Lib.hid (B4.out.trans (S4.out.put_below 6 (.bool (true))))
      go_wp2_with fail
      go_ret3
      exact ScanPost.of (k := k) HS0.out HTQ.out (by rw [HF.out]; exact HSC.out) HBC.out

set_option maxHeartbeats 8000000 in
theorem scan_c45 (F : Fix) (src : List UInt8) (s t : St) (W0 w : World) (hE : Env F W0) (hb0 : Below F.B W0 w) (h : SC F src s w) (hg : Good src s) (hsk : SkipR src s t) (hway : SkWay src s t) (hbs : F.fx.base ≤ 1000000) (hec : s.ec ≤ 90000000000) (hch : t.ch = 45) :
    Calls Tryf.prog 11 #[.pointer (some ⟨F.gS, 0, none⟩)] w (ScanPost F src s w) := by
  have hte : t.ec ≤ 90001048576 := by have := hway.ec; have := hway.good.le; have := h.len; omega
  have hlen := h.len
  have hoff := hway.good.le.2.2
  have HSK := Lib.hid (skip_any F src s w h hg (by omega))
  have HGT := Lib.hid hway.good
  have HE := Lib.hid hE
  have HB0 := Lib.hid hb0
  have HS0 := Lib.hid hsk
  have HKP := Lib.hid hsk.kp
  clear h hg hsk hway hE hb0
  go_enter Tryf.func11, Tryf.ntmps11
  go_wp2_with (go_at_call 30; refine Hid.out ?_)
  refine Lib.hid ?_
  refine HSK.out.mono ?_
  rintro e w1 ⟨t', rfl, hsk', _, hs1, hb1⟩
  obtain rfl := hsk'.det HS0.out
  have c0 : w1.cell? ⟨F.gS, 0, none⟩ = some (.pointer (some ⟨F.gF, 0, none⟩)) := by rw [hs1.blkS.cell]; rfl
  have c3 : w1.cell? ⟨F.gS, 3, none⟩ = some (.int .i64 (t'.off : Int)) := by rw [hs1.blkS.cell]; rfl
  have HFS : Hid (∀ n, Calls Tryf.prog 31 #[.pointer (some ⟨F.gF, 0, none⟩), .int .i64 (t'.off : Int)] (w1.drewN n) fun e w' => e = .returned (.int .i64 ((F.fx.base : Int) + (t'.off : Int))) ∧ w' = w1.drewN n) := Lib.hid (fun n => by
    obtain ⟨lv, hlb, _⟩ := (hs1.drewN n).file
    refine (fsp_any F.gF F.fx src.length t'.off lv _ hlb hs1.off hs1.len).mono (fun _ _ ⟨a, b⟩ => ⟨a.trans ?_, b.symm⟩)
    rw [show wrap64 ((F.fx.base : Int) + (t'.off : Int)) = (F.fx.base : Int) + (t'.off : Int) from wrap_small _ (by omega) (by omega)])
  have H1 := Lib.hid hs1
  have B1 := Lib.hid hb1
  clear hs1 hb1 HSK hsk'
  go_wp2_with fail
  go_quiet ((go_at_call 31; exact Calls.quiet_of_same (HFS.out _)))
  have S2 := Lib.hid (H1.out.drewN nq)
  have B2 := Lib.hid (below_drewN0 B1.out nq)
  have d2 : (w1.drewN nq).cell? ⟨F.gS, 2, none⟩ = some (.int .i32 45) := by rw [S2.out.blkS.cell]; show some (Value.int .i32 _) = _; rw [hch]
  clear c0 c3 H1 B1 HFS
  generalize w1.drewN nq = w2 at S2 B2 d2 ⊢

  have HCH := Lib.hid hch
  have hal : asciiLetter 45 = false := by decide
  go_wp2_with (go_at_call 32; refine Hid.out ?_)
  refine Lib.hid ?_
  refine (isLetter_ascii 45 w2 (by omega)).mono ?_
  rintro e w' ⟨rfl, rfl⟩
  rw [hal]
  clear hch hal

  go_wp2_with (go_at_call 37; refine Hid.out ?_)
  refine Lib.hid ?_
  refine (next_any F src t' _ S2.out (by omega)).mono ?_
  rintro e w3 ⟨rfl, hs3, hb3⟩
  obtain ⟨u, hu⟩ : ∃ u, nx src t' = u := ⟨_, rfl⟩
  have hue := nx_ec1 src t'
  rw [hu] at hs3 hue
  have HU := Lib.hid hu
  have S3 := Lib.hid hs3
  have B3 := Lib.hid (B2.out.trans hb3)
  clear hs3 hb3 hu S2 B2 d2

  have HT0 : Hid (∀ r, sw3 src u 12 23 45 36 = r → TokR src t' r.1 [] (fin (r.1 == 36) r.2)) := Lib.hid (fun r hr => TokR.sym (by rw [HCH.out]; rfl) (by unfold numC; rw [HCH.out]; rfl) (by rw [← hr, ← HU.out]; unfold symT; rw [HCH.out]; rfl))
  have HSW := Lib.hid (switch3_any F src u 12 23 45 36 w3 S3.out (by omega))
  obtain ⟨r, hr⟩ : ∃ r, sw3 src u 12 23 45 36 = r := ⟨_, rfl⟩
  have HT := Lib.hid (HT0.out r hr)
  rw [hr] at HSW
  clear hr HT0
  go_wp2_with (go_at_call 42; refine Hid.out ?_)
  refine Lib.hid ?_
  refine HSW.out.mono ?_
  rintro e w4 ⟨rfl, hs4, hb4⟩
  obtain ⟨k, v⟩ := r
  have S4 : Hid (SC F src v w4) := Lib.hid hs4
  have B4 := Lib.hid (B3.out.trans hb4)
  clear hs4 hb4 S3 B3 HSW

  rcases hq : (k == 36) with _ | _
  · have HTQ : Hid (TokR src t' k [] (fin false v)) := Lib.hid (by have := HT.out; simp only [hq] at this; exact this)
    have d9 : w4.cell? ⟨F.gS, 9, none⟩ = some (.int .i64 (v).mode) := by rw [S4.out.blkS.cell]; rfl
    have d6 : w4.cell? ⟨F.gS, 6, none⟩ = some (.bool (v).semi) := by rw [S4.out.blkS.cell]; rfl
    have f6 := S4.out.blkS.free 6
    rcases hm : (bits .and .i64 (v).mode 2 == 0) with _ | _
    · have HF := Lib.hid (fin_no (b := false) hm)
      go_wp2_with fail
      go_ret3
      exact ScanPost.of (k := k) HS0.out HTQ.out (by rw [HF.out]; exact S4.out) B4.out
    · have HF := Lib.hid (fin_yes (b := false) hm)
      have HSC := Lib.hid (S4.out.setSemi (false))
      have HBC := Lib.hid (B4.out.trans (S4.out.put_below 6 (.bool (false))))
      go_wp2_with fail
      go_ret3
      exact ScanPost.of (k := k) HS0.out HTQ.out (by rw [HF.out]; exact HSC.out) HBC.out
  · have HTQ : Hid (TokR src t' k [] (fin true v)) := Lib.hid (by have := HT.out; simp only [hq] at this; exact this)
    have d9 : w4.cell? ⟨F.gS, 9, none⟩ = some (.int .i64 (v).mode) := by rw [S4.out.blkS.cell]; rfl
    have d6 : w4.cell? ⟨F.gS, 6, none⟩ = some (.bool (v).semi) := by rw [S4.out.blkS.cell]; rfl
    have f6 := S4.out.blkS.free 6
    rcases hm : (bits .and .i64 (v).mode 2 == 0) with _ | _
    · have HF := Lib.hid (fin_no (b := true) hm)
      go_wp2_with fail
      go_ret3
      exact ScanPost.of (k := k) HS0.out HTQ.out (by rw [HF.out]; exact S4.out) B4.out
    · have HF := Lib.hid (fin_yes (b := true) hm)
      have HSC := Lib.hid (S4.out.setSemi (true))
      have HBC := Lib.hid (B4.out.trans (S4.out.put_below 6 (.bool (true))))
      go_wp2_with fail
      go_ret3
      exact ScanPost.of (k := k) HS0.out HTQ.out (by rw [HF.out]; exact HSC.out) HBC.out

set_option maxHeartbeats 8000000 in
theorem scan_c124 (F : Fix) (src : List UInt8) (s t : St) (W0 w : World) (hE : Env F W0) (hb0 : Below F.B W0 w) (h : SC F src s w) (hg : Good src s) (hsk : SkipR src s t) (hway : SkWay src s t) (hbs : F.fx.base ≤ 1000000) (hec : s.ec ≤ 90000000000) (hch : t.ch = 124) :
    Calls Tryf.prog 11 #[.pointer (some ⟨F.gS, 0, none⟩)] w (ScanPost F src s w) := by
  have hte : t.ec ≤ 90001048576 := by have := hway.ec; have := hway.good.le; have := h.len; omega
  have hlen := h.len
  have hoff := hway.good.le.2.2
  have HSK := Lib.hid (skip_any F src s w h hg (by omega))
  have HGT := Lib.hid hway.good
  have HE := Lib.hid hE
  have HB0 := Lib.hid hb0
  have HS0 := Lib.hid hsk
  have HKP := Lib.hid hsk.kp
  clear h hg hsk hway hE hb0
  go_enter Tryf.func11, Tryf.ntmps11
  go_wp2_with (go_at_call 30; refine Hid.out ?_)
  refine Lib.hid ?_
  refine HSK.out.mono ?_
  rintro e w1 ⟨t', rfl, hsk', _, hs1, hb1⟩
  obtain rfl := hsk'.det HS0.out
  have c0 : w1.cell? ⟨F.gS, 0, none⟩ = some (.pointer (some ⟨F.gF, 0, none⟩)) := by rw [hs1.blkS.cell]; rfl
  have c3 : w1.cell? ⟨F.gS, 3, none⟩ = some (.int .i64 (t'.off : Int)) := by rw [hs1.blkS.cell]; rfl
  have HFS : Hid (∀ n, Calls Tryf.prog 31 #[.pointer (some ⟨F.gF, 0, none⟩), .int .i64 (t'.off : Int)] (w1.drewN n) fun e w' => e = .returned (.int .i64 ((F.fx.base : Int) + (t'.off : Int))) ∧ w' = w1.drewN n) := Lib.hid (fun n => by
    obtain ⟨lv, hlb, _⟩ := (hs1.drewN n).file
    refine (fsp_any F.gF F.fx src.length t'.off lv _ hlb hs1.off hs1.len).mono (fun _ _ ⟨a, b⟩ => ⟨a.trans ?_, b.symm⟩)
    rw [show wrap64 ((F.fx.base : Int) + (t'.off : Int)) = (F.fx.base : Int) + (t'.off : Int) from wrap_small _ (by omega) (by omega)])
  have H1 := Lib.hid hs1
  have B1 := Lib.hid hb1
  clear hs1 hb1 HSK hsk'
  go_wp2_with fail
  go_quiet ((go_at_call 31; exact Calls.quiet_of_same (HFS.out _)))
  have S2 := Lib.hid (H1.out.drewN nq)
  have B2 := Lib.hid (below_drewN0 B1.out nq)
  have d2 : (w1.drewN nq).cell? ⟨F.gS, 2, none⟩ = some (.int .i32 124) := by rw [S2.out.blkS.cell]; show some (Value.int .i32 _) = _; rw [hch]
  clear c0 c3 H1 B1 HFS
  generalize w1.drewN nq = w2 at S2 B2 d2 ⊢

  have HCH := Lib.hid hch
  have hal : asciiLetter 124 = false := by decide
  go_wp2_with (go_at_call 32; refine Hid.out ?_)
  refine Lib.hid ?_
  refine (isLetter_ascii 124 w2 (by omega)).mono ?_
  rintro e w' ⟨rfl, rfl⟩
  rw [hal]
  clear hch hal

  go_wp2_with (go_at_call 37; refine Hid.out ?_)
  refine Lib.hid ?_
  refine (next_any F src t' _ S2.out (by omega)).mono ?_
  rintro e w3 ⟨rfl, hs3, hb3⟩
  obtain ⟨u, hu⟩ : ∃ u, nx src t' = u := ⟨_, rfl⟩
  have hue := nx_ec1 src t'
  rw [hu] at hs3 hue
  have HU := Lib.hid hu
  have S3 := Lib.hid hs3
  have B3 := Lib.hid (B2.out.trans hb3)
  clear hs3 hb3 hu S2 B2 d2

  have HT0 : Hid (∀ r, sw3 src u 17 28 124 34 = r → TokR src t' r.1 [] (fin false r.2)) := Lib.hid (fun r hr => TokR.sym (by rw [HCH.out]; rfl) (by unfold numC; rw [HCH.out]; rfl) (by rw [← hr, ← HU.out]; unfold symT; rw [HCH.out]; rfl))
  have HSW := Lib.hid (switch3_any F src u 17 28 124 34 w3 S3.out (by omega))
  obtain ⟨r, hr⟩ : ∃ r, sw3 src u 17 28 124 34 = r := ⟨_, rfl⟩
  have HT := Lib.hid (HT0.out r hr)
  rw [hr] at HSW
  clear hr HT0
  go_wp2_with (go_at_call 42; refine Hid.out ?_)
  refine Lib.hid ?_
  refine HSW.out.mono ?_
  rintro e w4 ⟨rfl, hs4, hb4⟩
  obtain ⟨k, v⟩ := r
  have S4 : Hid (SC F src v w4) := Lib.hid hs4
  have B4 := Lib.hid (B3.out.trans hb4)
  clear hs4 hb4 S3 B3 HSW

  have d9 : w4.cell? ⟨F.gS, 9, none⟩ = some (.int .i64 (v).mode) := by rw [S4.out.blkS.cell]; rfl
  have d6 : w4.cell? ⟨F.gS, 6, none⟩ = some (.bool (v).semi) := by rw [S4.out.blkS.cell]; rfl
  have f6 := S4.out.blkS.free 6
  rcases hm : (bits .and .i64 (v).mode 2 == 0) with _ | _
  · have HF := Lib.hid (fin_no (b := false) hm)
    go_wp2_with fail
    go_ret3
    exact ScanPost.of (k := k) (v := fin false v) HS0.out HT.out (by rw [HF.out]; exact S4.out) B4.out
  · have HF := Lib.hid (fin_yes (b := false) hm)
    have HSC := Lib.hid (S4.out.setSemi (false))
    have HBC := Lib.hid (B4.out.trans (S4.out.put_below 6 (.bool (false))))
    go_wp2_with fail
    go_ret3
    exact ScanPost.of (k := k) (v := fin false v) HS0.out HT.out (by rw [HF.out]; exact HSC.out) HBC.out

set_option maxHeartbeats 8000000 in
theorem scan_c60 (F : Fix) (src : List UInt8) (s t : St) (W0 w : World) (hE : Env F W0) (hb0 : Below F.B W0 w) (h : SC F src s w) (hg : Good src s) (hsk : SkipR src s t) (hway : SkWay src s t) (hbs : F.fx.base ≤ 1000000) (hec : s.ec ≤ 90000000000) (hch : t.ch = 60) :
    Calls Tryf.prog 11 #[.pointer (some ⟨F.gS, 0, none⟩)] w (ScanPost F src s w) := by
  have hte : t.ec ≤ 90001048576 := by have := hway.ec; have := hway.good.le; have := h.len; omega
  have hlen := h.len
  have hoff := hway.good.le.2.2
  have HSK := Lib.hid (skip_any F src s w h hg (by omega))
  have HGT := Lib.hid hway.good
  have HE := Lib.hid hE
  have HB0 := Lib.hid hb0
  have HS0 := Lib.hid hsk
  have HKP := Lib.hid hsk.kp
  clear h hg hsk hway hE hb0
  go_enter Tryf.func11, Tryf.ntmps11
  go_wp2_with (go_at_call 30; refine Hid.out ?_)
  refine Lib.hid ?_
  refine HSK.out.mono ?_
  rintro e w1 ⟨t', rfl, hsk', _, hs1, hb1⟩
  obtain rfl := hsk'.det HS0.out
  have c0 : w1.cell? ⟨F.gS, 0, none⟩ = some (.pointer (some ⟨F.gF, 0, none⟩)) := by rw [hs1.blkS.cell]; rfl
  have c3 : w1.cell? ⟨F.gS, 3, none⟩ = some (.int .i64 (t'.off : Int)) := by rw [hs1.blkS.cell]; rfl
  have HFS : Hid (∀ n, Calls Tryf.prog 31 #[.pointer (some ⟨F.gF, 0, none⟩), .int .i64 (t'.off : Int)] (w1.drewN n) fun e w' => e = .returned (.int .i64 ((F.fx.base : Int) + (t'.off : Int))) ∧ w' = w1.drewN n) := Lib.hid (fun n => by
    obtain ⟨lv, hlb, _⟩ := (hs1.drewN n).file
    refine (fsp_any F.gF F.fx src.length t'.off lv _ hlb hs1.off hs1.len).mono (fun _ _ ⟨a, b⟩ => ⟨a.trans ?_, b.symm⟩)
    rw [show wrap64 ((F.fx.base : Int) + (t'.off : Int)) = (F.fx.base : Int) + (t'.off : Int) from wrap_small _ (by omega) (by omega)])
  have H1 := Lib.hid hs1
  have B1 := Lib.hid hb1
  clear hs1 hb1 HSK hsk'
  go_wp2_with fail
  go_quiet ((go_at_call 31; exact Calls.quiet_of_same (HFS.out _)))
  have S2 := Lib.hid (H1.out.drewN nq)
  have B2 := Lib.hid (below_drewN0 B1.out nq)
  have d2 : (w1.drewN nq).cell? ⟨F.gS, 2, none⟩ = some (.int .i32 60) := by rw [S2.out.blkS.cell]; show some (Value.int .i32 _) = _; rw [hch]
  clear c0 c3 H1 B1 HFS
  generalize w1.drewN nq = w2 at S2 B2 d2 ⊢

  have HCH := Lib.hid hch
  have hal : asciiLetter 60 = false := by decide
  go_wp2_with (go_at_call 32; refine Hid.out ?_)
  refine Lib.hid ?_
  refine (isLetter_ascii 60 w2 (by omega)).mono ?_
  rintro e w' ⟨rfl, rfl⟩
  rw [hal]
  clear hch hal

  go_wp2_with (go_at_call 37; refine Hid.out ?_)
  refine Lib.hid ?_
  refine (next_any F src t' _ S2.out (by omega)).mono ?_
  rintro e w3 ⟨rfl, hs3, hb3⟩
  obtain ⟨u, hu⟩ : ∃ u, nx src t' = u := ⟨_, rfl⟩
  have hue := nx_ec1 src t'
  rw [hu] at hs3 hue
  have HU := Lib.hid hu
  have S3 := Lib.hid hs3
  have B3 := Lib.hid (B2.out.trans hb3)
  clear hs3 hb3 hu S2 B2 d2

  have HT0 : Hid (∀ r, sw4 src u 38 43 60 19 30 = r → TokR src t' r.1 [] (fin false r.2)) := Lib.hid (fun r hr => TokR.sym (by rw [HCH.out]; rfl) (by unfold numC; rw [HCH.out]; rfl) (by rw [← hr, ← HU.out]; unfold symT; rw [HCH.out]; rfl))
  have HSW := Lib.hid (switch4_any F src u 38 43 60 19 30 w3 S3.out (by omega))
  obtain ⟨r, hr⟩ : ∃ r, sw4 src u 38 43 60 19 30 = r := ⟨_, rfl⟩
  have HT := Lib.hid (HT0.out r hr)
  rw [hr] at HSW
  clear hr HT0
  go_wp2_with (go_at_call 46; refine Hid.out ?_)
  refine Lib.hid ?_
  refine HSW.out.mono ?_
  rintro e w4 ⟨rfl, hs4, hb4⟩
  obtain ⟨k, v⟩ := r
  have S4 : Hid (SC F src v w4) := Lib.hid hs4
  have B4 := Lib.hid (B3.out.trans hb4)
  clear hs4 hb4 S3 B3 HSW

  have d9 : w4.cell? ⟨F.gS, 9, none⟩ = some (.int .i64 (v).mode) := by rw [S4.out.blkS.cell]; rfl
  have d6 : w4.cell? ⟨F.gS, 6, none⟩ = some (.bool (v).semi) := by rw [S4.out.blkS.cell]; rfl
  have f6 := S4.out.blkS.free 6
  rcases hm : (bits .and .i64 (v).mode 2 == 0) with _ | _
  · have HF := Lib.hid (fin_no (b := false) hm)
    go_wp2_with fail
    go_ret3
    exact ScanPost.of (k := k) (v := fin false v) HS0.out HT.out (by rw [HF.out]; exact S4.out) B4.out
  · have HF := Lib.hid (fin_yes (b := false) hm)
    have HSC := Lib.hid (S4.out.setSemi (false))
    have HBC := Lib.hid (B4.out.trans (S4.out.put_below 6 (.bool (false))))
    go_wp2_with fail
    go_ret3
    exact ScanPost.of (k := k) (v := fin false v) HS0.out HT.out (by rw [HF.out]; exact HSC.out) HBC.out

set_option maxHeartbeats 8000000 in
theorem scan_c62 (F : Fix) (src : List UInt8) (s t : St) (W0 w : World) (hE : Env F W0) (hb0 : Below F.B W0 w) (h : SC F src s w) (hg : Good src s) (hsk : SkipR src s t) (hway : SkWay src s t) (hbs : F.fx.base ≤ 1000000) (hec : s.ec ≤ 90000000000) (hch : t.ch = 62) :
    Calls Tryf.prog 11 #[.pointer (some ⟨F.gS, 0, none⟩)] w (ScanPost F src s w) := by
  have hte : t.ec ≤ 90001048576 := by have := hway.ec; have := hway.good.le; have := h.len; omega
  have hlen := h.len
  have hoff := hway.good.le.2.2
  have HSK := Lib.hid (skip_any F src s w h hg (by omega))
  have HGT := Lib.hid hway.good
  have HE := Lib.hid hE
  have HB0 := Lib.hid hb0
  have HS0 := Lib.hid hsk
  have HKP := Lib.hid hsk.kp
  clear h hg hsk hway hE hb0
  go_enter Tryf.func11, Tryf.ntmps11
  go_wp2_with (go_at_call 30; refine Hid.out ?_)
  refine Lib.hid ?_
  refine HSK.out.mono ?_
  rintro e w1 ⟨t', rfl, hsk', _, hs1, hb1⟩
  obtain rfl := hsk'.det HS0.out
  have c0 : w1.cell? ⟨F.gS, 0, none⟩ = some (.pointer (some ⟨F.gF, 0, none⟩)) := by rw [hs1.blkS.cell]; rfl
  have c3 : w1.cell? ⟨F.gS, 3, none⟩ = some (.int .i64 (t'.off : Int)) := by rw [hs1.blkS.cell]; rfl
  have HFS : Hid (∀ n, Calls Tryf.prog 31 #[.pointer (some ⟨F.gF, 0, none⟩), .int .i64 (t'.off : Int)] (w1.drewN n) fun e w' => e = .returned (.int .i64 ((F.fx.base : Int) + (t'.off : Int))) ∧ w' = w1.drewN n) := Lib.hid (fun n => by
    obtain ⟨lv, hlb, _⟩ := (hs1.drewN n).file
    refine (fsp_any F.gF F.fx src.length t'.off lv _ hlb hs1.off hs1.len).mono (fun _ _ ⟨a, b⟩ => ⟨a.trans ?_, b.symm⟩)
    rw [show wrap64 ((F.fx.base : Int) + (t'.off : Int)) = (F.fx.base : Int) + (t'.off : Int) from wrap_small _ (by omega) (by omega)])
  have H1 := Lib.hid hs1
  have B1 := Lib.hid hb1
  clear hs1 hb1 HSK hsk'
  go_wp2_with fail
  go_quiet ((go_at_call 31; exact Calls.quiet_of_same (HFS.out _)))
  have S2 := Lib.hid (H1.out.drewN nq)
  have B2 := Lib.hid (below_drewN0 B1.out nq)
  have d2 : (w1.drewN nq).cell? ⟨F.gS, 2, none⟩ = some (.int .i32 62) := by rw [S2.out.blkS.cell]; show some (Value.int .i32 _) = _; rw [hch]
  clear c0 c3 H1 B1 HFS
  generalize w1.drewN nq = w2 at S2 B2 d2 ⊢

  have HCH := Lib.hid hch
  have hal : asciiLetter 62 = false := by decide
  go_wp2_with (go_at_call 32; refine Hid.out ?_)
  refine Lib.hid ?_
  refine (isLetter_ascii 62 w2 (by omega)).mono ?_
  rintro e w' ⟨rfl, rfl⟩
  rw [hal]
  clear hch hal

  go_wp2_with (go_at_call 37; refine Hid.out ?_)
  refine Lib.hid ?_
  refine (next_any F src t' _ S2.out (by omega)).mono ?_
  rintro e w3 ⟨rfl, hs3, hb3⟩
  obtain ⟨u, hu⟩ : ∃ u, nx src t' = u := ⟨_, rfl⟩
  have hue := nx_ec1 src t'
  rw [hu] at hs3 hue
  have HU := Lib.hid hu
  have S3 := Lib.hid hs3
  have B3 := Lib.hid (B2.out.trans hb3)
  clear hs3 hb3 hu S2 B2 d2

  have HT0 : Hid (∀ r, sw4 src u 39 44 62 20 31 = r → TokR src t' r.1 [] (fin false r.2)) := Lib.hid (fun r hr => TokR.sym (by rw [HCH.out]; rfl) (by unfold numC; rw [HCH.out]; rfl) (by rw [← hr, ← HU.out]; unfold symT; rw [HCH.out]; rfl))
  have HSW := Lib.hid (switch4_any F src u 39 44 62 20 31 w3 S3.out (by omega))
  obtain ⟨r, hr⟩ : ∃ r, sw4 src u 39 44 62 20 31 = r := ⟨_, rfl⟩
  have HT := Lib.hid (HT0.out r hr)
  rw [hr] at HSW
  clear hr HT0
  go_wp2_with (go_at_call 46; refine Hid.out ?_)
  refine Lib.hid ?_
  refine HSW.out.mono ?_
  rintro e w4 ⟨rfl, hs4, hb4⟩
  obtain ⟨k, v⟩ := r
  have S4 : Hid (SC F src v w4) := Lib.hid hs4
  have B4 := Lib.hid (B3.out.trans hb4)
  clear hs4 hb4 S3 B3 HSW

  have d9 : w4.cell? ⟨F.gS, 9, none⟩ = some (.int .i64 (v).mode) := by rw [S4.out.blkS.cell]; rfl
  have d6 : w4.cell? ⟨F.gS, 6, none⟩ = some (.bool (v).semi) := by rw [S4.out.blkS.cell]; rfl
  have f6 := S4.out.blkS.free 6
  rcases hm : (bits .and .i64 (v).mode 2 == 0) with _ | _
  · have HF := Lib.hid (fin_no (b := false) hm)
    go_wp2_with fail
    go_ret3
    exact ScanPost.of (k := k) (v := fin false v) HS0.out HT.out (by rw [HF.out]; exact S4.out) B4.out
  · have HF := Lib.hid (fin_yes (b := false) hm)
    have HSC := Lib.hid (S4.out.setSemi (false))
    have HBC := Lib.hid (B4.out.trans (S4.out.put_below 6 (.bool (false))))
    go_wp2_with fail
    go_ret3
    exact ScanPost.of (k := k) (v := fin false v) HS0.out HT.out (by rw [HF.out]; exact HSC.out) HBC.out
end Go.Proofs.YtamfekpcoppbgaaFmt
