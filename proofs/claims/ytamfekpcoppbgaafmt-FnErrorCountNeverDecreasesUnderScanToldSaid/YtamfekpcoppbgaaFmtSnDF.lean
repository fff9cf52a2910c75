/-
  Scan at the ampersand, the dot, the end and a newline. Conditions: as stated.
  Scan at the quoted literals. Conditions: as stated.
  Scan at numbers and identifiers. Conditions: as stated.
-/
import Derived.Test.YtamfekpcoppbgaaFmtSnP
import Derived.Test.YtamfekpcoppbgaaFmtRaw
namespace Go.Proofs.YtamfekpcoppbgaaFmt
open Go.RowKit
set_option maxRecDepth 100000
set_option linter.unusedVariables false

set_option maxHeartbeats 8000000 in
theorem scan_c38 (F : Fix) (src : List UInt8) (s t : St) (W0 w : World) (hE : Env F W0) (hb0 : Below F.B W0 w) (h : SC F src s w) (hg : Good src s) (hsk : SkipR src s t) (hway : SkWay src s t) (hbs : F.fx.base ≤ 1000000) (hec : s.ec ≤ 90000000000) (hch : t.ch = 38) :
    Calls Tryf.prog 11 #[.pointer (some ⟨F.gS, 0, none⟩)] w (ScanPost F src s w) := by
  have hte : t.ec ≤ 90001048576 := by have := hway.ec; have := hway.good.le; have := h.len; omega
  have hlen := h.len
  have hoff := hway.good.le.2.2
  have HSK := Lib.hid (skip_any F src s w h hg (by omega))
  have HGT := Lib.hid hway.good
  have HE := Lib.hid hE
  have HB0 := Lib.hid hb0
  have HS0 := Lib.hid hsk
  have HKP := Lib.hid hsk.kp
  clear h hg hsk hway hE hb0
  go_enter Tryf.func11, Tryf.ntmps11
  go_wp2_with (go_at_call 30; refine Hid.out ?_)
  refine Lib.hid ?_
  refine HSK.out.mono ?_
  rintro e w1 ⟨t', rfl, hsk', _, hs1, hb1⟩
  obtain rfl := hsk'.det HS0.out
  have c0 : w1.cell? ⟨F.gS, 0, none⟩ = some (.pointer (some ⟨F.gF, 0, none⟩)) := by rw [hs1.blkS.cell]; rfl
  have c3 : w1.cell? ⟨F.gS, 3, none⟩ = some (.int .i64 (t'.off : Int)) := by rw [hs1.blkS.cell]; rfl
  have HFS : Hid (∀ n, Calls Tryf.prog 31 #[.pointer (some ⟨F.gF, 0, none⟩), .int .i64 (t'.off : Int)] (w1.drewN n) fun e w' => e = .returned (.int .i64 ((F.fx.base : Int) + (t'.off : Int))) ∧ w' = w1.drewN n) := Lib.hid (fun n => by
    obtain ⟨lv, hlb, _⟩ := (hs1.drewN n).file
    refine (fsp_any F.gF F.fx src.length t'.off lv _ hlb hs1.off hs1.len).mono (fun _ _ ⟨a, b⟩ => ⟨a.trans ?_, b.symm⟩)
    rw [show wrap64 ((F.fx.base : Int) + (t'.off : Int)) = (F.fx.base : Int) + (t'.off : Int) from wrap_small _ (by omega) (by omega)])
  have H1 := Lib.hid hs1
  have B1 := Lib.hid hb1
  clear hs1 hb1 HSK hsk'
  go_wp2_with fail
  go_quiet ((go_at_call 31; exact Calls.quiet_of_same (HFS.out _)))
  have S2 := Lib.hid (H1.out.drewN nq)
  have B2 := Lib.hid (below_drewN0 B1.out nq)
  have d2 : (w1.drewN nq).cell? ⟨F.gS, 2, none⟩ = some (.int .i32 38) := by rw [S2.out.blkS.cell]; show some (Value.int .i32 _) = _; rw [hch]
  clear c0 c3 H1 B1 HFS
  generalize w1.drewN nq = w2 at S2 B2 d2 ⊢

  have HCH := Lib.hid hch
  have hal : asciiLetter 38 = false := by decide
  go_wp2_with (go_at_call 32; refine Hid.out ?_)
  refine Lib.hid ?_
  refine (isLetter_ascii 38 w2 (by omega)).mono ?_
  rintro e w' ⟨rfl, rfl⟩
  rw [hal]
  clear hch hal

  go_wp2_with (go_at_call 37; refine Hid.out ?_)
  refine Lib.hid ?_
  refine (next_any F src t' _ S2.out (by omega)).mono ?_
  rintro e w3 ⟨rfl, hs3, hb3⟩
  obtain ⟨u, hu⟩ : ∃ u, nx src t' = u := ⟨_, rfl⟩
  have hue := nx_ec1 src t'
  rw [hu] at hs3 hue
  have HU := Lib.hid hu
  have S3 := Lib.hid hs3
  have B3 := Lib.hid (B2.out.trans hb3)
  clear hs3 hb3 hu S2 B2 d2

  have e2 : w3.cell? ⟨F.gS, 2, none⟩ = some (.int .i32 u.ch) := by rw [S3.out.blkS.cell]; rfl
  have HT0 : Hid (∀ r : Tk, (if u.ch = 94 then ofSw (sw2 src (nx src u) 21 32) else ofSw (sw3 src u 16 27 38 33)) = r → TokR src t' r.1 r.2.1 (fin r.2.2.1 r.2.2.2)) := Lib.hid (fun r hr => TokR.sym (by rw [HCH.out]; rfl) (by unfold numC; rw [HCH.out]; rfl) (by rw [← hr, ← HU.out]; unfold symT; rw [HCH.out]; rfl))
  by_cases h94 : u.ch = 94
  · have t94 : (u.ch == 94) = true := by simpa using h94
    have hn4 := nx_ec1 src u
    obtain ⟨r, hr⟩ : ∃ r, sw2 src (nx src u) 21 32 = r := ⟨_, rfl⟩
    have HT1 := Lib.hid (HT0.out (ofSw r) (by rw [if_pos h94, hr]))
    have HR := Lib.hid hr
    clear h94 hr HT0
    go_wp2_with (go_at_call 37; refine Hid.out ?_)
    refine Lib.hid ?_
    refine (next_any F src u _ S3.out (by omega)).mono ?_
    rintro e w5 ⟨rfl, hs5, hb5⟩
    have HSW := Lib.hid (switch2_any F src (nx src u) 21 32 w5 hs5 (by omega))
    have B5 := Lib.hid (B3.out.trans hb5)
    rw [HR.out] at HSW
    clear hs5 hb5 S3 B3 e2
    go_wp2_with (go_at_call 41; refine Hid.out ?_)
    refine Lib.hid ?_
    refine HSW.out.mono ?_
    rintro e w4 ⟨rfl, hs4, hb4⟩
    obtain ⟨k, v⟩ := r
    have S4 : Hid (SC F src v w4) := Lib.hid hs4
    have B4 := Lib.hid (B5.out.trans hb4)
    have HT : Hid (TokR src t' k [] (fin false v)) := HT1
    clear hs4 hb4 HSW HR HT1
    have d9 : w4.cell? ⟨F.gS, 9, none⟩ = some (.int .i64 (v).mode) := by rw [S4.out.blkS.cell]; rfl
    have d6 : w4.cell? ⟨F.gS, 6, none⟩ = some (.bool (v).semi) := by rw [S4.out.blkS.cell]; rfl
    have f6 := S4.out.blkS.free 6
    rcases hm : (bits .and .i64 (v).mode 2 == 0) with _ | _
    · have HF := Lib.hid (fin_no (b := false) hm)
      go_wp2_with fail
      go_ret3
      exact ScanPost.of (k := k) (v := fin false v) HS0.out HT.out (by rw [HF.out]; exact S4.out) B4.out
    · have HF := Lib.hid (fin_yes (b := false) hm)
      have HSC := Lib.hid (S4.out.setSemi (false))
      have HBC := Lib.hid (B4.out.trans (S4.out.put_below 6 (.bool (false))))
      go_wp2_with fail
      go_ret3
      exact ScanPost.of (k := k) (v := fin false v) HS0.out HT.out (by rw [HF.out]; exact HSC.out) HBC.out
  · have t94 : (u.ch == 94) = false := by simpa using h94
    obtain ⟨r, hr⟩ : ∃ r, sw3 src u 16 27 38 33 = r := ⟨_, rfl⟩
    have HT1 := Lib.hid (HT0.out (ofSw r) (by rw [if_neg h94, hr]))
    have HSW := Lib.hid (switch3_any F src u 16 27 38 33 w3 S3.out (by omega))
    rw [hr] at HSW
    have B5 := B3
    clear h94 hr HT0 B3
    go_wp2_with (go_at_call 42; refine Hid.out ?_)
    refine Lib.hid ?_
    refine HSW.out.mono ?_
    rintro e w4 ⟨rfl, hs4, hb4⟩
    obtain ⟨k, v⟩ := r
    have S4 : Hid (SC F src v w4) := Lib.hid hs4
    have B4 := Lib.hid (B5.out.trans hb4)
    have HT : Hid (TokR src t' k [] (fin false v)) := HT1
    clear hs4 hb4 HSW HT1 S3 e2
    have d9 : w4.cell? ⟨F.gS, 9, none⟩ = some (.int .i64 (v).mode) := by rw [S4.out.blkS.cell]; rfl
    have d6 : w4.cell? ⟨F.gS, 6, none⟩ = some (.bool (v).semi) := by rw [S4.out.blkS.cell]; rfl
    have f6 := S4.out.blkS.free 6
    rcases hm : (bits .and .i64 (v).mode 2 == 0) with _ | _
    · have HF := Lib.hid (fin_no (b := false) hm)
      go_wp2_with fail
      go_ret3
      exact ScanPost.of (k := k) (v := fin false v) HS0.out HT.out (by rw [HF.out]; exact S4.out) B4.out
    · have HF := Lib.hid (fin_yes (b := false) hm)
      have HSC := Lib.hid (S4.out.setSemi (false))
      have HBC := Lib.hid (B4.out.trans (S4.out.put_below 6 (.bool (false))))
      go_wp2_with fail
      go_ret3
      exact ScanPost.of (k := k) (v := fin false v) HS0.out HT.out (by rw [HF.out]; exact HSC.out) HBC.out

set_option maxHeartbeats 8000000 in
theorem scan_c46 (F : Fix) (src : List UInt8) (s t : St) (W0 w : World) (hE : Env F W0) (hb0 : Below F.B W0 w) (h : SC F src s w) (hg : Good src s) (hsk : SkipR src s t) (hway : SkWay src s t) (hbs : F.fx.base ≤ 1000000) (hec : s.ec ≤ 90000000000) (hch : t.ch = 46) (hn : numC src t = false) :
    Calls Tryf.prog 11 #[.pointer (some ⟨F.gS, 0, none⟩)] w (ScanPost F src s w) := by
  have hte : t.ec ≤ 90001048576 := by have := hway.ec; have := hway.good.le; have := h.len; omega
  have hlen := h.len
  have hoff := hway.good.le.2.2
  have HSK := Lib.hid (skip_any F src s w h hg (by omega))
  have HGT := Lib.hid hway.good
  have HE := Lib.hid hE
  have HB0 := Lib.hid hb0
  have HS0 := Lib.hid hsk
  have HKP := Lib.hid hsk.kp
  clear h hg hsk hway hE hb0
  go_enter Tryf.func11, Tryf.ntmps11
  go_wp2_with (go_at_call 30; refine Hid.out ?_)
  refine Lib.hid ?_
  refine HSK.out.mono ?_
  rintro e w1 ⟨t', rfl, hsk', _, hs1, hb1⟩
  obtain rfl := hsk'.det HS0.out
  have c0 : w1.cell? ⟨F.gS, 0, none⟩ = some (.pointer (some ⟨F.gF, 0, none⟩)) := by rw [hs1.blkS.cell]; rfl
  have c3 : w1.cell? ⟨F.gS, 3, none⟩ = some (.int .i64 (t'.off : Int)) := by rw [hs1.blkS.cell]; rfl
  have HFS : Hid (∀ n, Calls Tryf.prog 31 #[.pointer (some ⟨F.gF, 0, none⟩), .int .i64 (t'.off : Int)] (w1.drewN n) fun e w' => e = .returned (.int .i64 ((F.fx.base : Int) + (t'.off : Int))) ∧ w' = w1.drewN n) := Lib.hid (fun n => by
    obtain ⟨lv, hlb, _⟩ := (hs1.drewN n).file
    refine (fsp_any F.gF F.fx src.length t'.off lv _ hlb hs1.off hs1.len).mono (fun _ _ ⟨a, b⟩ => ⟨a.trans ?_, b.symm⟩)
    rw [show wrap64 ((F.fx.base : Int) + (t'.off : Int)) = (F.fx.base : Int) + (t'.off : Int) from wrap_small _ (by omega) (by omega)])
  have H1 := Lib.hid hs1
  have B1 := Lib.hid hb1
  clear hs1 hb1 HSK hsk'
  go_wp2_with fail
  go_quiet ((go_at_call 31; exact Calls.quiet_of_same (HFS.out _)))
  have S2 := Lib.hid (H1.out.drewN nq)
  have B2 := Lib.hid (below_drewN0 B1.out nq)
  have d2 : (w1.drewN nq).cell? ⟨F.gS, 2, none⟩ = some (.int .i32 46) := by rw [S2.out.blkS.cell]; show some (Value.int .i32 _) = _; rw [hch]
  clear c0 c3 H1 B1 HFS
  generalize w1.drewN nq = w2 at S2 B2 d2 ⊢

  have HCH := Lib.hid hch
  have hal : asciiLetter 46 = false := by decide
  go_wp2_with (go_at_call 32; refine Hid.out ?_)
  refine Lib.hid ?_
  refine (isLetter_ascii 46 w2 (by omega)).mono ?_
  rintro e w' ⟨rfl, rfl⟩
  rw [hal]
  clear hch hal

  have HN := Lib.hid hn
  have HPK := Lib.hid (peek_any F src t' w2 S2.out)
  have HPD : Hid (∀ n, Calls Tryf.prog 35 #[.pointer (some ⟨F.gS, 0, none⟩)] (w2.drewN n) fun e w' => e = .returned (.int .u8 (bt src t'.rd : Int)) ∧ ∃ m, w' = w2.drewN m) := Lib.hid (fun n => (peek_any F src t' (w2.drewN n) (S2.out.drewN n)).mono (fun _ _ ⟨h1, m, h2⟩ => ⟨h1, _, h2.trans (World.drewN_drewN _ _ _)⟩))
  obtain ⟨pk, hpk⟩ : ∃ pk, bt src t'.rd = pk := ⟨_, rfl⟩
  have hpn : ¬ (48 ≤ pk ∧ pk ≤ 57) := by
    have := of_decide_eq_false hn
    rw [HCH.out, hpk] at this
    omega
  rw [hpk] at HPK HPD
  clear hn hpk
  by_cases h48 : 48 ≤ pk
  · have hq : ¬ pk ≤ 57 := fun h => hpn ⟨h48, h⟩
    have i1 : (48 : Int) ≤ (pk : Int) := by omega
    have i2 : ¬ (pk : Int) ≤ 57 := by omega
    have i3 : decide ((pk : Int) ≤ 57) = false := decide_eq_false i2
    clear hpn h48 hq
    go_wp2_with (go_at_call 35; refine Hid.out ?_)
    refine Lib.hid ?_
    refine HPK.out.mono ?_
    rintro e wp1 ⟨rfl, n1, rfl⟩
    go_wp2_with (go_at_call 35; refine Hid.out ?_)
    refine Lib.hid ?_
    refine (HPD.out n1).mono ?_
    rintro e wp2 ⟨rfl, n2, rfl⟩
    have SA := Lib.hid (S2.out.drewN n2)
    have BA := Lib.hid (below_drewN0 B2.out n2)
    generalize w2.drewN n2 = wA at SA BA ⊢
    clear S2 B2 HPK HPD
    go_wp2_with (go_at_call 37; refine Hid.out ?_)
    refine Lib.hid ?_
    refine (next_any F src t' _ SA.out (by omega)).mono ?_
    rintro e w3 ⟨rfl, hs3, hb3⟩
    obtain ⟨u, hu⟩ : ∃ u, nx src t' = u := ⟨_, rfl⟩
    have hue := nx_ec1 src t'
    rw [hu] at hs3 hue
    have HU := Lib.hid hu
    have S3 := Lib.hid hs3
    have B3 := Lib.hid (BA.out.trans hb3)
    clear hs3 hb3 hu SA BA d2

    have e2 : w3.cell? ⟨F.gS, 2, none⟩ = some (.int .i32 u.ch) := by rw [S3.out.blkS.cell]; rfl
    have HPK3 := Lib.hid (peek_any F src u w3 S3.out)
    have HT0 : Hid (∀ r : Tk, (if u.ch = 46 ∧ bt src u.rd = 46 then ((46, [], false, nx src (nx src u)) : Tk) else (51, [], false, u)) = r → TokR src t' r.1 r.2.1 (fin r.2.2.1 r.2.2.2)) := Lib.hid (fun r hr => TokR.sym (by rw [HCH.out]; rfl) HN.out (by rw [← hr, ← HU.out]; unfold symT; rw [HCH.out]; rfl))
    by_cases h46 : u.ch = 46
    · have t46 : (u.ch == 46) = true := by simpa using h46
      by_cases hp : bt src u.rd = 46
      · have HT : Hid (TokR src t' 46 [] (fin false (nx src (nx src u)))) := Lib.hid (HT0.out _ (by rw [if_pos ⟨h46, hp⟩]))
        have hn4 := nx_ec1 src u
        rw [hp] at HPK3
        clear h46 hp HT0
        go_wp2_with (go_at_call 35; refine Hid.out ?_)
        refine Lib.hid ?_
        refine HPK3.out.mono ?_
        rintro e w5 ⟨rfl, n5, rfl⟩
        go_wp2_with (go_at_call 37; refine Hid.out ?_)
        refine Lib.hid ?_
        refine (next_any F src u _ (S3.out.drewN n5) (by omega)).mono ?_
        rintro e w6 ⟨rfl, hs6, hb6⟩
        have S6 := Lib.hid hs6
        have B6 := Lib.hid ((below_drewN0 B3.out n5).trans hb6)
        clear hs6 hb6 e2 S3 B3 HPK3
        go_wp2_with (go_at_call 37; refine Hid.out ?_)
        refine Lib.hid ?_
        refine (next_any F src (nx src u) _ S6.out (by omega)).mono ?_
        rintro e w4 ⟨rfl, hs4, hb4⟩
        have S4 := Lib.hid hs4
        have B4 := Lib.hid (B6.out.trans hb4)
        clear hs4 hb4 S6 B6
        have d9 : w4.cell? ⟨F.gS, 9, none⟩ = some (.int .i64 (nx src (nx src u)).mode) := by rw [S4.out.blkS.cell]; rfl
        have d6 : w4.cell? ⟨F.gS, 6, none⟩ = some (.bool (nx src (nx src u)).semi) := by rw [S4.out.blkS.cell]; rfl
        have f6 := S4.out.blkS.free 6
        rcases hm : (bits .and .i64 (nx src (nx src u)).mode 2 == 0) with _ | _
        · have HF := Lib.hid (fin_no (b := false) hm)
          go_wp2_with fail
          go_ret3
          exact ScanPost.of HS0.out HT.out (by rw [HF.out]; exact S4.out) B4.out
        · have HF := Lib.hid (fin_yes (b := false) hm)
          have HSC := Lib.hid (S4.out.setSemi (false))
          have HBC := Lib.hid (B4.out.trans (S4.out.put_below 6 (.bool (false))))
          go_wp2_with fail
          go_ret3
          exact ScanPost.of HS0.out HT.out (by rw [HF.out]; exact HSC.out) HBC.out
      · have HT : Hid (TokR src t' 51 [] (fin false u)) := Lib.hid (HT0.out _ (by rw [if_neg (fun h => hp h.2)]))
        have tp : ((bt src u.rd : Int) == 46) = false := by simp; omega
        clear h46 hp HT0
        go_wp2_with (go_at_call 35; refine Hid.out ?_)
        refine Lib.hid ?_
        refine HPK3.out.mono ?_
        rintro e w5 ⟨rfl, n5, rfl⟩
        have S4 := Lib.hid (S3.out.drewN n5)
        have B4 := Lib.hid (below_drewN0 B3.out n5)
        generalize w3.drewN n5 = w4 at S4 B4 ⊢
        clear e2 S3 B3 HPK3
        have d9 : w4.cell? ⟨F.gS, 9, none⟩ = some (.int .i64 (u).mode) := by rw [S4.out.blkS.cell]; rfl
        have d6 : w4.cell? ⟨F.gS, 6, none⟩ = some (.bool (u).semi) := by rw [S4.out.blkS.cell]; rfl
        have f6 := S4.out.blkS.free 6
        rcases hm : (bits .and .i64 (u).mode 2 == 0) with _ | _
        · have HF := Lib.hid (fin_no (b := false) hm)
          go_wp2_with fail
          go_ret3
          exact ScanPost.of HS0.out HT.out (by rw [HF.out]; exact S4.out) B4.out
        · have HF := Lib.hid (fin_yes (b := false) hm)
          have HSC := Lib.hid (S4.out.setSemi (false))
          have HBC := Lib.hid (B4.out.trans (S4.out.put_below 6 (.bool (false))))
          go_wp2_with fail
          go_ret3
          exact ScanPost.of HS0.out HT.out (by rw [HF.out]; exact HSC.out) HBC.out
    · have HT : Hid (TokR src t' 51 [] (fin false u)) := Lib.hid (HT0.out _ (by rw [if_neg (fun h => h46 h.1)]))
      have t46 : (u.ch == 46) = false := by simpa using h46
      clear h46 HT0
      have d9 : w3.cell? ⟨F.gS, 9, none⟩ = some (.int .i64 (u).mode) := by rw [S3.out.blkS.cell]; rfl
      have d6 : w3.cell? ⟨F.gS, 6, none⟩ = some (.bool (u).semi) := by rw [S3.out.blkS.cell]; rfl
      have f6 := S3.out.blkS.free 6
      rcases hm : (bits .and .i64 (u).mode 2 == 0) with _ | _
      · have HF := Lib.hid (fin_no (b := false) hm)
        go_wp2_with fail
        go_ret3
        exact ScanPost.of HS0.out HT.out (by rw [HF.out]; exact S3.out) B3.out
      · have HF := Lib.hid (fin_yes (b := false) hm)
        have HSC := Lib.hid (S3.out.setSemi (false))
        have HBC := Lib.hid (B3.out.trans (S3.out.put_below 6 (.bool (false))))
        go_wp2_with fail
        go_ret3
        exact ScanPost.of HS0.out HT.out (by rw [HF.out]; exact HSC.out) HBC.out
  · have i1 : ¬ (48 : Int) ≤ (pk : Int) := by omega
    have i3 : decide ((48 : Int) ≤ (pk : Int)) = false := decide_eq_false i1
    clear hpn h48
    go_wp2_with (go_at_call 35; refine Hid.out ?_)
    refine Lib.hid ?_
    refine HPK.out.mono ?_
    rintro e wp1 ⟨rfl, n1, rfl⟩
    have SA := Lib.hid (S2.out.drewN n1)
    have BA := Lib.hid (below_drewN0 B2.out n1)
    generalize w2.drewN n1 = wA at SA BA ⊢
    clear S2 B2 HPK HPD
    go_wp2_with (go_at_call 37; refine Hid.out ?_)
    refine Lib.hid ?_
    refine (next_any F src t' _ SA.out (by omega)).mono ?_
    rintro e w3 ⟨rfl, hs3, hb3⟩
    obtain ⟨u, hu⟩ : ∃ u, nx src t' = u := ⟨_, rfl⟩
    have hue := nx_ec1 src t'
    rw [hu] at hs3 hue
    have HU := Lib.hid hu
    have S3 := Lib.hid hs3
    have B3 := Lib.hid (BA.out.trans hb3)
    clear hs3 hb3 hu SA BA d2

    have e2 : w3.cell? ⟨F.gS, 2, none⟩ = some (.int .i32 u.ch) := by rw [S3.out.blkS.cell]; rfl
    have HPK3 := Lib.hid (peek_any F src u w3 S3.out)
    have HT0 : Hid (∀ r : Tk, (if u.ch = 46 ∧ bt src u.rd = 46 then ((46, [], false, nx src (nx src u)) : Tk) else (51, [], false, u)) = r → TokR src t' r.1 r.2.1 (fin r.2.2.1 r.2.2.2)) := Lib.hid (fun r hr => TokR.sym (by rw [HCH.out]; rfl) HN.out (by rw [← hr, ← HU.out]; unfold symT; rw [HCH.out]; rfl))
    by_cases h46 : u.ch = 46
    · have t46 : (u.ch == 46) = true := by simpa using h46
      by_cases hp : bt src u.rd = 46
      · have HT : Hid (TokR src t' 46 [] (fin false (nx src (nx src u)))) := Lib.hid (HT0.out _ (by rw [if_pos ⟨h46, hp⟩]))
        have hn4 := nx_ec1 src u
        rw [hp] at HPK3
        clear h46 hp HT0
        go_wp2_with (go_at_call 35; refine Hid.out ?_)
        refine Lib.hid ?_
        refine HPK3.out.mono ?_
        rintro e w5 ⟨rfl, n5, rfl⟩
        go_wp2_with (go_at_call 37; refine Hid.out ?_)
        refine Lib.hid ?_
        refine (next_any F src u _ (S3.out.drewN n5) (by omega)).mono ?_
        rintro e w6 ⟨rfl, hs6, hb6⟩
        have S6 := Lib.hid hs6
        have B6 := Lib.hid ((below_drewN0 B3.out n5).trans hb6)
        clear hs6 hb6 e2 S3 B3 HPK3
        go_wp2_with (go_at_call 37; refine Hid.out ?_)
        refine Lib.hid ?_
        refine (next_any F src (nx src u) _ S6.out (by omega)).mono ?_
        rintro e w4 ⟨rfl, hs4, hb4⟩
        have S4 := Lib.hid hs4
        have B4 := Lib.hid (B6.out.trans hb4)
        clear hs4 hb4 S6 B6
        have d9 : w4.cell? ⟨F.gS, 9, none⟩ = some (.int .i64 (nx src (nx src u)).mode) := by rw [S4.out.blkS.cell]; rfl
        have d6 : w4.cell? ⟨F.gS, 6, none⟩ = some (.bool (nx src (nx src u)).semi) := by rw [S4.out.blkS.cell]; rfl
        have f6 := S4.out.blkS.free 6
        rcases hm : (bits .and .i64 (nx src (nx src u)).mode 2 == 0) with _ | _
        · have HF := Lib.hid (fin_no (b := false) hm)
          go_wp2_with fail
          go_ret3
          exact ScanPost.of HS0.out HT.out (by rw [HF.out]; exact S4.out) B4.out
        · have HF := Lib.hid (fin_yes (b := false) hm)
          have HSC := Lib.hid (S4.out.setSemi (false))
          have HBC := Lib.hid (B4.out.trans (S4.out.put_below 6 (.bool (false))))
          go_wp2_with fail
          go_ret3
          exact ScanPost.of HS0.out HT.out (by rw [HF.out]; exact HSC.out) HBC.out
      · have HT : Hid (TokR src t' 51 [] (fin false u)) := Lib.hid (HT0.out _ (by rw [if_neg (fun h => hp h.2)]))
        have tp : ((bt src u.rd : Int) == 46) = false := by simp; omega
        clear h46 hp HT0
        go_wp2_with (go_at_call 35; refine Hid.out ?_)
        refine Lib.hid ?_
        refine HPK3.out.mono ?_
        rintro e w5 ⟨rfl, n5, rfl⟩
        have S4 := Lib.hid (S3.out.drewN n5)
        have B4 := Lib.hid (below_drewN0 B3.out n5)
        generalize w3.drewN n5 = w4 at S4 B4 ⊢
        clear e2 S3 B3 HPK3
        have d9 : w4.cell? ⟨F.gS, 9, none⟩ = some (.int .i64 (u).mode) := by rw [S4.out.blkS.cell]; rfl
        have d6 : w4.cell? ⟨F.gS, 6, none⟩ = some (.bool (u).semi) := by rw [S4.out.blkS.cell]; rfl
        have f6 := S4.out.blkS.free 6
        rcases hm : (bits .and .i64 (u).mode 2 == 0) with _ | _
        · have HF := Lib.hid (fin_no (b := false) hm)
          go_wp2_with fail
          go_ret3
          exact ScanPost.of HS0.out HT.out (by rw [HF.out]; exact S4.out) B4.out
        · have HF := Lib.hid (fin_yes (b := false) hm)
          have HSC := Lib.hid (S4.out.setSemi (false))
          have HBC := Lib.hid (B4.out.trans (S4.out.put_below 6 (.bool (false))))
          go_wp2_with fail
          go_ret3
          exact ScanPost.of HS0.out HT.out (by rw [HF.out]; exact HSC.out) HBC.out
    · have HT : Hid (TokR src t' 51 [] (fin false u)) := Lib.hid (HT0.out _ (by rw [if_neg (fun h => h46 h.1)]))
      have t46 : (u.ch == 46) = false := by simpa using h46
      clear h46 HT0
      have d9 : w3.cell? ⟨F.gS, 9, none⟩ = some (.int .i64 (u).mode) := by rw [S3.out.blkS.cell]; rfl
      have d6 : w3.cell? ⟨F.gS, 6, none⟩ = some (.bool (u).semi) := by rw [S3.out.blkS.cell]; rfl
      have f6 := S3.out.blkS.free 6
      rcases hm : (bits .and .i64 (u).mode 2 == 0) with _ | _
      · have HF := Lib.hid (fin_no (b := false) hm)
        go_wp2_with fail
        go_ret3
        exact ScanPost.of HS0.out HT.out (by rw [HF.out]; exact S3.out) B3.out
      · have HF := Lib.hid (fin_yes (b := false) hm)
        have HSC := Lib.hid (S3.out.setSemi (false))
        have HBC := Lib.hid (B3.out.trans (S3.out.put_below 6 (.bool (false))))
        go_wp2_with fail
        go_ret3
        exact ScanPost.of HS0.out HT.out (by rw [HF.out]; exact HSC.out) HBC.out

set_option maxHeartbeats 8000000 in
theorem scan_eof (F : Fix) (src : List UInt8) (s t : St) (W0 w : World) (hE : Env F W0) (hb0 : Below F.B W0 w) (h : SC F src s w) (hg : Good src s) (hsk : SkipR src s t) (hway : SkWay src s t) (hbs : F.fx.base ≤ 1000000) (hec : s.ec ≤ 90000000000) (hch : t.ch = -1) :
    Calls Tryf.prog 11 #[.pointer (some ⟨F.gS, 0, none⟩)] w (ScanPost F src s w) := by
  have hte : t.ec ≤ 90001048576 := by have := hway.ec; have := hway.good.le; have := h.len; omega
  have hlen := h.len
  have hoff := hway.good.le.2.2
  have HSK := Lib.hid (skip_any F src s w h hg (by omega))
  have HGT := Lib.hid hway.good
  have HE := Lib.hid hE
  have HB0 := Lib.hid hb0
  have HS0 := Lib.hid hsk
  have HKP := Lib.hid hsk.kp
  clear h hg hsk hway hE hb0
  go_enter Tryf.func11, Tryf.ntmps11
  go_wp2_with (go_at_call 30; refine Hid.out ?_)
  refine Lib.hid ?_
  refine HSK.out.mono ?_
  rintro e w1 ⟨t', rfl, hsk', _, hs1, hb1⟩
  obtain rfl := hsk'.det HS0.out
  have c0 : w1.cell? ⟨F.gS, 0, none⟩ = some (.pointer (some ⟨F.gF, 0, none⟩)) := by rw [hs1.blkS.cell]; rfl
  have c3 : w1.cell? ⟨F.gS, 3, none⟩ = some (.int .i64 (t'.off : Int)) := by rw [hs1.blkS.cell]; rfl
  have HFS : Hid (∀ n, Calls Tryf.prog 31 #[.pointer (some ⟨F.gF, 0, none⟩), .int .i64 (t'.off : Int)] (w1.drewN n) fun e w' => e = .returned (.int .i64 ((F.fx.base : Int) + (t'.off : Int))) ∧ w' = w1.drewN n) := Lib.hid (fun n => by
    obtain ⟨lv, hlb, _⟩ := (hs1.drewN n).file
    refine (fsp_any F.gF F.fx src.length t'.off lv _ hlb hs1.off hs1.len).mono (fun _ _ ⟨a, b⟩ => ⟨a.trans ?_, b.symm⟩)
    rw [show wrap64 ((F.fx.base : Int) + (t'.off : Int)) = (F.fx.base : Int) + (t'.off : Int) from wrap_small _ (by omega) (by omega)])
  have H1 := Lib.hid hs1
  have B1 := Lib.hid hb1
  clear hs1 hb1 HSK hsk'
  go_wp2_with fail
  go_quiet ((go_at_call 31; exact Calls.quiet_of_same (HFS.out _)))
  have S2 := Lib.hid (H1.out.drewN nq)
  have B2 := Lib.hid (below_drewN0 B1.out nq)
  have d2 : (w1.drewN nq).cell? ⟨F.gS, 2, none⟩ = some (.int .i32 (-1)) := by rw [S2.out.blkS.cell]; show some (Value.int .i32 _) = _; rw [hch]
  clear c0 c3 H1 B1 HFS
  generalize w1.drewN nq = w2 at S2 B2 d2 ⊢

  have HCH := Lib.hid hch
  have hal : asciiLetter (-1) = false := by decide
  go_wp2_with (go_at_call 32; refine Hid.out ?_)
  refine Lib.hid ?_
  refine (isLetter_ascii (-1) w2 (by omega)).mono ?_
  rintro e w' ⟨rfl, rfl⟩
  rw [hal]
  clear hch hal

  go_wp2_with (go_at_call 37; refine Hid.out ?_)
  refine Lib.hid ?_
  refine (next_any F src t' _ S2.out (by omega)).mono ?_
  rintro e w3 ⟨rfl, hs3, hb3⟩
  obtain ⟨u, hu⟩ : ∃ u, nx src t' = u := ⟨_, rfl⟩
  have hue := nx_ec1 src t'
  rw [hu] at hs3 hue
  have HU := Lib.hid hu
  have S3 := Lib.hid hs3
  have B3 := Lib.hid (B2.out.trans hb3)
  clear hs3 hb3 hu S2 B2 d2

  have d6 : w3.cell? ⟨F.gS, 6, none⟩ = some (.bool u.semi) := by rw [S3.out.blkS.cell]; rfl
  have f6 := S3.out.blkS.free 6
  have hus : u.semi = t'.semi := by rw [← HU.out]; exact nx_semi src t'
  rcases hm : t'.semi with _ | _
  · rw [hm] at hus
    rw [hus] at d6
    have HT : Hid (TokR src t' 1 [] (fin false u)) := Lib.hid (by rw [← HU.out]; exact TokR.eof HCH.out hm)
    clear hm hus f6
    have d9 : w3.cell? ⟨F.gS, 9, none⟩ = some (.int .i64 (u).mode) := by rw [S3.out.blkS.cell]; rfl
    have f6 := S3.out.blkS.free 6
    rcases hm : (bits .and .i64 (u).mode 2 == 0) with _ | _
    · have HF := Lib.hid (fin_no (b := false) hm)
      go_wp2_with fail
      go_ret3
      exact ScanPost.of HS0.out HT.out (by rw [HF.out]; exact S3.out) B3.out
    · have HF := Lib.hid (fin_yes (b := false) hm)
      have HSC := Lib.hid (S3.out.setSemi (false))
      have HBC := Lib.hid (B3.out.trans (S3.out.put_below 6 (.bool (false))))
      go_wp2_with fail
      go_ret3
      exact ScanPost.of HS0.out HT.out (by rw [HF.out]; exact HSC.out) HBC.out
  · rw [hm] at hus
    rw [hus] at d6
    have HT : Hid (TokR src t' 55 [10] { u with semi := false }) := Lib.hid (by rw [← HU.out]; exact TokR.eofS HCH.out hm)
    have HSC := Lib.hid (S3.out.setSemi false)
    have HBC := Lib.hid (B3.out.trans (S3.out.put_below 6 (.bool false)))
    clear hm hus
    go_wp2_with fail
    go_ret3
    exact ScanPost.of HS0.out HT.out HSC.out HBC.out

set_option maxHeartbeats 8000000 in
theorem scan_c10 (F : Fix) (src : List UInt8) (s t : St) (W0 w : World) (hE : Env F W0) (hb0 : Below F.B W0 w) (h : SC F src s w) (hg : Good src s) (hsk : SkipR src s t) (hway : SkWay src s t) (hbs : F.fx.base ≤ 1000000) (hec : s.ec ≤ 90000000000) (hch : t.ch = 10) :
    Calls Tryf.prog 11 #[.pointer (some ⟨F.gS, 0, none⟩)] w (ScanPost F src s w) := by
  have hte : t.ec ≤ 90001048576 := by have := hway.ec; have := hway.good.le; have := h.len; omega
  have hlen := h.len
  have hoff := hway.good.le.2.2
  have HSK := Lib.hid (skip_any F src s w h hg (by omega))
  have HGT := Lib.hid hway.good
  have HE := Lib.hid hE
  have HB0 := Lib.hid hb0
  have HS0 := Lib.hid hsk
  have HKP := Lib.hid hsk.kp
  clear h hg hsk hway hE hb0
  go_enter Tryf.func11, Tryf.ntmps11
  go_wp2_with (go_at_call 30; refine Hid.out ?_)
  refine Lib.hid ?_
  refine HSK.out.mono ?_
  rintro e w1 ⟨t', rfl, hsk', _, hs1, hb1⟩
  obtain rfl := hsk'.det HS0.out
  have c0 : w1.cell? ⟨F.gS, 0, none⟩ = some (.pointer (some ⟨F.gF, 0, none⟩)) := by rw [hs1.blkS.cell]; rfl
  have c3 : w1.cell? ⟨F.gS, 3, none⟩ = some (.int .i64 (t'.off : Int)) := by rw [hs1.blkS.cell]; rfl
  have HFS : Hid (∀ n, Calls Tryf.prog 31 #[.pointer (some ⟨F.gF, 0, none⟩), .int .i64 (t'.off : Int)] (w1.drewN n) fun e w' => e = .returned (.int .i64 ((F.fx.base : Int) + (t'.off : Int))) ∧ w' = w1.drewN n) := Lib.hid (fun n => by
    obtain ⟨lv, hlb, _⟩ := (hs1.drewN n).file
    refine (fsp_any F.gF F.fx src.length t'.off lv _ hlb hs1.off hs1.len).mono (fun _ _ ⟨a, b⟩ => ⟨a.trans ?_, b.symm⟩)
    rw [show wrap64 ((F.fx.base : Int) + (t'.off : Int)) = (F.fx.base : Int) + (t'.off : Int) from wrap_small _ (by omega) (by omega)])
  have H1 := Lib.hid hs1
  have B1 := Lib.hid hb1
  clear hs1 hb1 HSK hsk'
  go_wp2_with fail
  go_quiet ((go_at_call 31; exact Calls.quiet_of_same (HFS.out _)))
  have S2 := Lib.hid (H1.out.drewN nq)
  have B2 := Lib.hid (below_drewN0 B1.out nq)
  have d2 : (w1.drewN nq).cell? ⟨F.gS, 2, none⟩ = some (.int .i32 10) := by rw [S2.out.blkS.cell]; show some (Value.int .i32 _) = _; rw [hch]
  clear c0 c3 H1 B1 HFS
  generalize w1.drewN nq = w2 at S2 B2 d2 ⊢

  have HCH := Lib.hid hch
  have hal : asciiLetter 10 = false := by decide
  go_wp2_with (go_at_call 32; refine Hid.out ?_)
  refine Lib.hid ?_
  refine (isLetter_ascii 10 w2 (by omega)).mono ?_
  rintro e w' ⟨rfl, rfl⟩
  rw [hal]
  clear hch hal

  go_wp2_with (go_at_call 37; refine Hid.out ?_)
  refine Lib.hid ?_
  refine (next_any F src t' _ S2.out (by omega)).mono ?_
  rintro e w3 ⟨rfl, hs3, hb3⟩
  obtain ⟨u, hu⟩ : ∃ u, nx src t' = u := ⟨_, rfl⟩
  have hue := nx_ec1 src t'
  rw [hu] at hs3 hue
  have HU := Lib.hid hu
  have S3 := Lib.hid hs3
  have B3 := Lib.hid (B2.out.trans hb3)
  clear hs3 hb3 hu S2 B2 d2

  have d6 : w3.cell? ⟨F.gS, 6, none⟩ = some (.bool u.semi) := by rw [S3.out.blkS.cell]; rfl
  have f6 := S3.out.blkS.free 6
  have HT : Hid (TokR src t' 55 [10] { u with semi := false }) := Lib.hid (by rw [← HU.out]; exact TokR.nl HCH.out)
  have HSC := Lib.hid (S3.out.setSemi false)
  have HBC := Lib.hid (B3.out.trans (S3.out.put_below 6 (.bool false)))
  go_wp2_with fail
  go_ret3
  exact ScanPost.of HS0.out HT.out HSC.out HBC.out
end Go.Proofs.YtamfekpcoppbgaaFmt
namespace Go.Proofs.YtamfekpcoppbgaaFmt
open Go.RowKit
set_option maxRecDepth 100000
set_option linter.unusedVariables false

set_option maxHeartbeats 8000000 in
theorem scan_c34 (F : Fix) (src : List UInt8) (s t : St) (W0 w : World) (hE : Env F W0) (hb0 : Below F.B W0 w) (h : SC F src s w) (hg : Good src s) (hsk : SkipR src s t) (hway : SkWay src s t) (hbs : F.fx.base ≤ 1000000) (hec : s.ec ≤ 90000000000) (I : Go.Stop.Interp) (hI : I.answers W0.tape) (hch : t.ch = 34) :
    Calls Tryf.prog 11 #[.pointer (some ⟨F.gS, 0, none⟩)] w (ScanPost F src s w) := by
  have hte : t.ec ≤ 90001048576 := by have := hway.ec; have := hway.good.le; have := h.len; omega
  have hlen := h.len
  have hoff := hway.good.le.2.2
  have HSK := Lib.hid (skip_any F src s w h hg (by omega))
  have HGT := Lib.hid hway.good
  have HE := Lib.hid hE
  have HB0 := Lib.hid hb0
  have HS0 := Lib.hid hsk
  have HKP := Lib.hid hsk.kp
  clear h hg hsk hway hE hb0
  go_enter Tryf.func11, Tryf.ntmps11
  go_wp2_with (go_at_call 30; refine Hid.out ?_)
  refine Lib.hid ?_
  refine HSK.out.mono ?_
  rintro e w1 ⟨t', rfl, hsk', _, hs1, hb1⟩
  obtain rfl := hsk'.det HS0.out
  have c0 : w1.cell? ⟨F.gS, 0, none⟩ = some (.pointer (some ⟨F.gF, 0, none⟩)) := by rw [hs1.blkS.cell]; rfl
  have c3 : w1.cell? ⟨F.gS, 3, none⟩ = some (.int .i64 (t'.off : Int)) := by rw [hs1.blkS.cell]; rfl
  have HFS : Hid (∀ n, Calls Tryf.prog 31 #[.pointer (some ⟨F.gF, 0, none⟩), .int .i64 (t'.off : Int)] (w1.drewN n) fun e w' => e = .returned (.int .i64 ((F.fx.base : Int) + (t'.off : Int))) ∧ w' = w1.drewN n) := Lib.hid (fun n => by
    obtain ⟨lv, hlb, _⟩ := (hs1.drewN n).file
    refine (fsp_any F.gF F.fx src.length t'.off lv _ hlb hs1.off hs1.len).mono (fun _ _ ⟨a, b⟩ => ⟨a.trans ?_, b.symm⟩)
    rw [show wrap64 ((F.fx.base : Int) + (t'.off : Int)) = (F.fx.base : Int) + (t'.off : Int) from wrap_small _ (by omega) (by omega)])
  have H1 := Lib.hid hs1
  have B1 := Lib.hid hb1
  clear hs1 hb1 HSK hsk'
  go_wp2_with fail
  go_quiet ((go_at_call 31; exact Calls.quiet_of_same (HFS.out _)))
  have S2 := Lib.hid (H1.out.drewN nq)
  have B2 := Lib.hid (below_drewN0 B1.out nq)
  have d2 : (w1.drewN nq).cell? ⟨F.gS, 2, none⟩ = some (.int .i32 34) := by rw [S2.out.blkS.cell]; show some (Value.int .i32 _) = _; rw [hch]
  clear c0 c3 H1 B1 HFS
  generalize w1.drewN nq = w2 at S2 B2 d2 ⊢

  have HCH := Lib.hid hch
  have hal : asciiLetter 34 = false := by decide
  go_wp2_with (go_at_call 32; refine Hid.out ?_)
  refine Lib.hid ?_
  refine (isLetter_ascii 34 w2 (by omega)).mono ?_
  rintro e w' ⟨rfl, rfl⟩
  rw [hal]
  clear hch hal

  have hst := step_of HGT.out (show 0 ≤ t'.ch by rw [HCH.out]; decide)
  have HGU := Lib.hid hst.good
  have hfar := hst.far
  have hasc := (Good.ascii HGT.out 34 (by omega)).1 HCH.out
  have hone := hst.one (by omega)
  have HBT : Hid (bt src ((nx src t').off - 1) ≠ 13) := Lib.hid (by rw [hone, Nat.add_sub_cancel, hasc.2]; decide)
  clear hst hasc

  go_wp2_with (go_at_call 37; refine Hid.out ?_)
  refine Lib.hid ?_
  refine (next_any F src t' _ S2.out (by omega)).mono ?_
  rintro e w3 ⟨rfl, hs3, hb3⟩
  obtain ⟨u, hu⟩ : ∃ u, nx src t' = u := ⟨_, rfl⟩
  have hue := nx_ec1 src t'
  rw [hu] at hs3 hue
  have HU := Lib.hid hu
  have S3 := Lib.hid hs3
  have B3 := Lib.hid (B2.out.trans hb3)
  clear hs3 hb3 hu S2 B2 d2

  rw [HU.out] at HGU HBT hone hfar
  have HI : Hid (I.answers w3.tape) := Lib.hid (by rw [(HB0.out.trans B3.out).tape]; exact hI)
  have HLT := Lib.hid (string_any I F src u w3 HI.out S3.out HGU.out (by omega) (by omega))
  clear hI hone
  go_wp2_with (go_at_call 38; refine Hid.out ?_)
  refine Lib.hid ?_
  refine HLT.out.mono ?_
  rintro e w4 ⟨z, b, hr, hw, rfl, hs4, hb4⟩
  obtain ⟨x, hx⟩ : ∃ x, endErr z b = x := ⟨_, rfl⟩
  have HT : Hid (TokR src t' 8 _ (fin true x)) := Lib.hid (by rw [← hx]; exact (TokR.str HCH.out (by rw [HU.out]; exact hr)))
  rw [hx] at hs4
  rw [HU.out] at HT
  have S4 := Lib.hid hs4
  have B4 := Lib.hid (B3.out.trans hb4)
  clear hs4 hb4 hx HLT S3 B3

  have d9 : w4.cell? ⟨F.gS, 9, none⟩ = some (.int .i64 (x).mode) := by rw [S4.out.blkS.cell]; rfl
  have d6 : w4.cell? ⟨F.gS, 6, none⟩ = some (.bool (x).semi) := by rw [S4.out.blkS.cell]; rfl
  have f6 := S4.out.blkS.free 6
  rcases hm : (bits .and .i64 (x).mode 2 == 0) with _ | _
  · have HF := Lib.hid (fin_no (b := true) hm)
    go_wp2_with fail
    go_ret3
    exact ScanPost.of HS0.out HT.out (by rw [HF.out]; exact S4.out) B4.out
  · have HF := Lib.hid (fin_yes (b := true) hm)
    have HSC := Lib.hid (S4.out.setSemi (true))
    have HBC := Lib.hid (B4.out.trans (S4.out.put_below 6 (.bool (true))))
    go_wp2_with fail
    go_ret3
    exact ScanPost.of HS0.out HT.out (by rw [HF.out]; exact HSC.out) HBC.out

set_option maxHeartbeats 8000000 in
theorem scan_c39 (F : Fix) (src : List UInt8) (s t : St) (W0 w : World) (hE : Env F W0) (hb0 : Below F.B W0 w) (h : SC F src s w) (hg : Good src s) (hsk : SkipR src s t) (hway : SkWay src s t) (hbs : F.fx.base ≤ 1000000) (hec : s.ec ≤ 90000000000) (I : Go.Stop.Interp) (hI : I.answers W0.tape) (hch : t.ch = 39) :
    Calls Tryf.prog 11 #[.pointer (some ⟨F.gS, 0, none⟩)] w (ScanPost F src s w) := by
  have hte : t.ec ≤ 90001048576 := by have := hway.ec; have := hway.good.le; have := h.len; omega
  have hlen := h.len
  have hoff := hway.good.le.2.2
  have HSK := Lib.hid (skip_any F src s w h hg (by omega))
  have HGT := Lib.hid hway.good
  have HE := Lib.hid hE
  have HB0 := Lib.hid hb0
  have HS0 := Lib.hid hsk
  have HKP := Lib.hid hsk.kp
  clear h hg hsk hway hE hb0
  go_enter Tryf.func11, Tryf.ntmps11
  go_wp2_with (go_at_call 30; refine Hid.out ?_)
  refine Lib.hid ?_
  refine HSK.out.mono ?_
  rintro e w1 ⟨t', rfl, hsk', _, hs1, hb1⟩
  obtain rfl := hsk'.det HS0.out
  have c0 : w1.cell? ⟨F.gS, 0, none⟩ = some (.pointer (some ⟨F.gF, 0, none⟩)) := by rw [hs1.blkS.cell]; rfl
  have c3 : w1.cell? ⟨F.gS, 3, none⟩ = some (.int .i64 (t'.off : Int)) := by rw [hs1.blkS.cell]; rfl
  have HFS : Hid (∀ n, Calls Tryf.prog 31 #[.pointer (some ⟨F.gF, 0, none⟩), .int .i64 (t'.off : Int)] (w1.drewN n) fun e w' => e = .returned (.int .i64 ((F.fx.base : Int) + (t'.off : Int))) ∧ w' = w1.drewN n) := Lib.hid (fun n => by
    obtain ⟨lv, hlb, _⟩ := (hs1.drewN n).file
    refine (fsp_any F.gF F.fx src.length t'.off lv _ hlb hs1.off hs1.len).mono (fun _ _ ⟨a, b⟩ => ⟨a.trans ?_, b.symm⟩)
    rw [show wrap64 ((F.fx.base : Int) + (t'.off : Int)) = (F.fx.base : Int) + (t'.off : Int) from wrap_small _ (by omega) (by omega)])
  have H1 := Lib.hid hs1
  have B1 := Lib.hid hb1
  clear hs1 hb1 HSK hsk'
  go_wp2_with fail
  go_quiet ((go_at_call 31; exact Calls.quiet_of_same (HFS.out _)))
  have S2 := Lib.hid (H1.out.drewN nq)
  have B2 := Lib.hid (below_drewN0 B1.out nq)
  have d2 : (w1.drewN nq).cell? ⟨F.gS, 2, none⟩ = some (.int .i32 39) := by rw [S2.out.blkS.cell]; show some (Value.int .i32 _) = _; rw [hch]
  clear c0 c3 H1 B1 HFS
  generalize w1.drewN nq = w2 at S2 B2 d2 ⊢

  have HCH := Lib.hid hch
  have hal : asciiLetter 39 = false := by decide
  go_wp2_with (go_at_call 32; refine Hid.out ?_)
  refine Lib.hid ?_
  refine (isLetter_ascii 39 w2 (by omega)).mono ?_
  rintro e w' ⟨rfl, rfl⟩
  rw [hal]
  clear hch hal

  have hst := step_of HGT.out (show 0 ≤ t'.ch by rw [HCH.out]; decide)
  have HGU := Lib.hid hst.good
  have hfar := hst.far
  have hasc := (Good.ascii HGT.out 39 (by omega)).1 HCH.out
  have hone := hst.one (by omega)
  have HBT : Hid (bt src ((nx src t').off - 1) ≠ 13) := Lib.hid (by rw [hone, Nat.add_sub_cancel, hasc.2]; decide)
  clear hst hasc

  go_wp2_with (go_at_call 37; refine Hid.out ?_)
  refine Lib.hid ?_
  refine (next_any F src t' _ S2.out (by omega)).mono ?_
  rintro e w3 ⟨rfl, hs3, hb3⟩
  obtain ⟨u, hu⟩ : ∃ u, nx src t' = u := ⟨_, rfl⟩
  have hue := nx_ec1 src t'
  rw [hu] at hs3 hue
  have HU := Lib.hid hu
  have S3 := Lib.hid hs3
  have B3 := Lib.hid (B2.out.trans hb3)
  clear hs3 hb3 hu S2 B2 d2

  rw [HU.out] at HGU HBT hone hfar
  have HI : Hid (I.answers w3.tape) := Lib.hid (by rw [(HB0.out.trans B3.out).tape]; exact hI)
  have HLT := Lib.hid (rune_any I F src u w3 HI.out S3.out HGU.out (by omega) (by omega))
  clear hI hone
  go_wp2_with (go_at_call 39; refine Hid.out ?_)
  refine Lib.hid ?_
  refine HLT.out.mono ?_
  rintro e w4 ⟨z, b, n, v, hr, hw, rfl, hs4, hb4⟩
  obtain ⟨x, hx⟩ : ∃ x, runEnd z b n v = x := ⟨_, rfl⟩
  have HT : Hid (TokR src t' 7 _ (fin true x)) := Lib.hid (by rw [← hx]; exact (TokR.chr HCH.out (by rw [HU.out]; exact hr)))
  rw [hx] at hs4
  rw [HU.out] at HT
  have S4 := Lib.hid hs4
  have B4 := Lib.hid (B3.out.trans hb4)
  clear hs4 hb4 hx HLT S3 B3

  have d9 : w4.cell? ⟨F.gS, 9, none⟩ = some (.int .i64 (x).mode) := by rw [S4.out.blkS.cell]; rfl
  have d6 : w4.cell? ⟨F.gS, 6, none⟩ = some (.bool (x).semi) := by rw [S4.out.blkS.cell]; rfl
  have f6 := S4.out.blkS.free 6
  rcases hm : (bits .and .i64 (x).mode 2 == 0) with _ | _
  · have HF := Lib.hid (fin_no (b := true) hm)
    go_wp2_with fail
    go_ret3
    exact ScanPost.of HS0.out HT.out (by rw [HF.out]; exact S4.out) B4.out
  · have HF := Lib.hid (fin_yes (b := true) hm)
    have HSC := Lib.hid (S4.out.setSemi (true))
    have HBC := Lib.hid (B4.out.trans (S4.out.put_below 6 (.bool (true))))
    go_wp2_with fail
    go_ret3
    exact ScanPost.of HS0.out HT.out (by rw [HF.out]; exact HSC.out) HBC.out

set_option maxHeartbeats 8000000 in
theorem scan_c96 (F : Fix) (src : List UInt8) (s t : St) (W0 w : World) (hE : Env F W0) (hb0 : Below F.B W0 w) (h : SC F src s w) (hg : Good src s) (hsk : SkipR src s t) (hway : SkWay src s t) (hbs : F.fx.base ≤ 1000000) (hec : s.ec ≤ 90000000000) (hch : t.ch = 96) :
    Calls Tryf.prog 11 #[.pointer (some ⟨F.gS, 0, none⟩)] w (ScanPost F src s w) := by
  have hte : t.ec ≤ 90001048576 := by have := hway.ec; have := hway.good.le; have := h.len; omega
  have hlen := h.len
  have hoff := hway.good.le.2.2
  have HSK := Lib.hid (skip_any F src s w h hg (by omega))
  have HGT := Lib.hid hway.good
  have HE := Lib.hid hE
  have HB0 := Lib.hid hb0
  have HS0 := Lib.hid hsk
  have HKP := Lib.hid hsk.kp
  clear h hg hsk hway hE hb0
  go_enter Tryf.func11, Tryf.ntmps11
  go_wp2_with (go_at_call 30; refine Hid.out ?_)
  refine Lib.hid ?_
  refine HSK.out.mono ?_
  rintro e w1 ⟨t', rfl, hsk', _, hs1, hb1⟩
  obtain rfl := hsk'.det HS0.out
  have c0 : w1.cell? ⟨F.gS, 0, none⟩ = some (.pointer (some ⟨F.gF, 0, none⟩)) := by rw [hs1.blkS.cell]; rfl
  have c3 : w1.cell? ⟨F.gS, 3, none⟩ = some (.int .i64 (t'.off : Int)) := by rw [hs1.blkS.cell]; rfl
  have HFS : Hid (∀ n, Calls Tryf.prog 31 #[.pointer (some ⟨F.gF, 0, none⟩), .int .i64 (t'.off : Int)] (w1.drewN n) fun e w' => e = .returned (.int .i64 ((F.fx.base : Int) + (t'.off : Int))) ∧ w' = w1.drewN n) := Lib.hid (fun n => by
    obtain ⟨lv, hlb, _⟩ := (hs1.drewN n).file
    refine (fsp_any F.gF F.fx src.length t'.off lv _ hlb hs1.off hs1.len).mono (fun _ _ ⟨a, b⟩ => ⟨a.trans ?_, b.symm⟩)
    rw [show wrap64 ((F.fx.base : Int) + (t'.off : Int)) = (F.fx.base : Int) + (t'.off : Int) from wrap_small _ (by omega) (by omega)])
  have H1 := Lib.hid hs1
  have B1 := Lib.hid hb1
  clear hs1 hb1 HSK hsk'
  go_wp2_with fail
  go_quiet ((go_at_call 31; exact Calls.quiet_of_same (HFS.out _)))
  have S2 := Lib.hid (H1.out.drewN nq)
  have B2 := Lib.hid (below_drewN0 B1.out nq)
  have d2 : (w1.drewN nq).cell? ⟨F.gS, 2, none⟩ = some (.int .i32 96) := by rw [S2.out.blkS.cell]; show some (Value.int .i32 _) = _; rw [hch]
  clear c0 c3 H1 B1 HFS
  generalize w1.drewN nq = w2 at S2 B2 d2 ⊢

  have HCH := Lib.hid hch
  have hal : asciiLetter 96 = false := by decide
  go_wp2_with (go_at_call 32; refine Hid.out ?_)
  refine Lib.hid ?_
  refine (isLetter_ascii 96 w2 (by omega)).mono ?_
  rintro e w' ⟨rfl, rfl⟩
  rw [hal]
  clear hch hal

  have hst := step_of HGT.out (show 0 ≤ t'.ch by rw [HCH.out]; decide)
  have HGU := Lib.hid hst.good
  have hfar := hst.far
  have hasc := (Good.ascii HGT.out 96 (by omega)).1 HCH.out
  have hone := hst.one (by omega)
  have HBT : Hid (bt src ((nx src t').off - 1) ≠ 13) := Lib.hid (by rw [hone, Nat.add_sub_cancel, hasc.2]; decide)
  clear hst hasc

  go_wp2_with (go_at_call 37; refine Hid.out ?_)
  refine Lib.hid ?_
  refine (next_any F src t' _ S2.out (by omega)).mono ?_
  rintro e w3 ⟨rfl, hs3, hb3⟩
  obtain ⟨u, hu⟩ : ∃ u, nx src t' = u := ⟨_, rfl⟩
  have hue := nx_ec1 src t'
  rw [hu] at hs3 hue
  have HU := Lib.hid hu
  have S3 := Lib.hid hs3
  have B3 := Lib.hid (B2.out.trans hb3)
  clear hs3 hb3 hu S2 B2 d2

  rw [HU.out] at HGU HBT hone hfar

  have HLT := Lib.hid (raw_any F src u w3 S3.out HGU.out (by omega) HBT.out (by omega))
  clear hone
  go_wp2_with (go_at_call 40; refine Hid.out ?_)
  refine Lib.hid ?_
  refine HLT.out.mono ?_
  rintro e w4 ⟨z, b, hr, hw, rfl, hs4, hb4⟩
  obtain ⟨x, hx⟩ : ∃ x, rawEnd z b = x := ⟨_, rfl⟩
  have HT : Hid (TokR src t' 8 _ (fin true x)) := Lib.hid (by rw [← hx]; exact (TokR.raw HCH.out (by rw [HU.out]; exact hr)))
  rw [hx] at hs4
  rw [HU.out] at HT
  have S4 := Lib.hid hs4
  have B4 := Lib.hid (B3.out.trans hb4)
  clear hs4 hb4 hx HLT S3 B3

  have d9 : w4.cell? ⟨F.gS, 9, none⟩ = some (.int .i64 (x).mode) := by rw [S4.out.blkS.cell]; rfl
  have d6 : w4.cell? ⟨F.gS, 6, none⟩ = some (.bool (x).semi) := by rw [S4.out.blkS.cell]; rfl
  have f6 := S4.out.blkS.free 6
  rcases hm : (bits .and .i64 (x).mode 2 == 0) with _ | _
  · have HF := Lib.hid (fin_no (b := true) hm)
    go_wp2_with fail
    go_ret3
    exact ScanPost.of HS0.out HT.out (by rw [HF.out]; exact S4.out) B4.out
  · have HF := Lib.hid (fin_yes (b := true) hm)
    have HSC := Lib.hid (S4.out.setSemi (true))
    have HBC := Lib.hid (B4.out.trans (S4.out.put_below 6 (.bool (true))))
    go_wp2_with fail
    go_ret3
    exact ScanPost.of HS0.out HT.out (by rw [HF.out]; exact HSC.out) HBC.out
end Go.Proofs.YtamfekpcoppbgaaFmt
namespace Go.Proofs.YtamfekpcoppbgaaFmt
open Go.RowKit
set_option maxRecDepth 100000
set_option linter.unusedVariables false

set_option maxHeartbeats 8000000 in
theorem scan_num (F : Fix) (src : List UInt8) (s t : St) (W0 w : World) (hE : Env F W0) (hb0 : Below F.B W0 w) (h : SC F src s w) (hg : Good src s) (hsk : SkipR src s t) (hway : SkWay src s t) (hbs : F.fx.base ≤ 1000000) (hec : s.ec ≤ 90000000000) (hL : isLetterG t.ch = false) (hn : numC src t = true) :
    Calls Tryf.prog 11 #[.pointer (some ⟨F.gS, 0, none⟩)] w (ScanPost F src s w) := by
  have hte : t.ec ≤ 90001048576 := by have := hway.ec; have := hway.good.le; have := h.len; omega
  have hlen := h.len
  have hoff := hway.good.le.2.2
  have HSK := Lib.hid (skip_any F src s w h hg (by omega))
  have HGT := Lib.hid hway.good
  have HE := Lib.hid hE
  have HB0 := Lib.hid hb0
  have HS0 := Lib.hid hsk
  have HKP := Lib.hid hsk.kp
  clear h hg hsk hway hE hb0
  go_enter Tryf.func11, Tryf.ntmps11
  go_wp2_with (go_at_call 30; refine Hid.out ?_)
  refine Lib.hid ?_
  refine HSK.out.mono ?_
  rintro e w1 ⟨t', rfl, hsk', _, hs1, hb1⟩
  obtain rfl := hsk'.det HS0.out
  have c0 : w1.cell? ⟨F.gS, 0, none⟩ = some (.pointer (some ⟨F.gF, 0, none⟩)) := by rw [hs1.blkS.cell]; rfl
  have c3 : w1.cell? ⟨F.gS, 3, none⟩ = some (.int .i64 (t'.off : Int)) := by rw [hs1.blkS.cell]; rfl
  have HFS : Hid (∀ n, Calls Tryf.prog 31 #[.pointer (some ⟨F.gF, 0, none⟩), .int .i64 (t'.off : Int)] (w1.drewN n) fun e w' => e = .returned (.int .i64 ((F.fx.base : Int) + (t'.off : Int))) ∧ w' = w1.drewN n) := Lib.hid (fun n => by
    obtain ⟨lv, hlb, _⟩ := (hs1.drewN n).file
    refine (fsp_any F.gF F.fx src.length t'.off lv _ hlb hs1.off hs1.len).mono (fun _ _ ⟨a, b⟩ => ⟨a.trans ?_, b.symm⟩)
    rw [show wrap64 ((F.fx.base : Int) + (t'.off : Int)) = (F.fx.base : Int) + (t'.off : Int) from wrap_small _ (by omega) (by omega)])
  have H1 := Lib.hid hs1
  have B1 := Lib.hid hb1
  clear hs1 hb1 HSK hsk'
  go_wp2_with fail
  go_quiet ((go_at_call 31; exact Calls.quiet_of_same (HFS.out _)))
  have S2 := Lib.hid (H1.out.drewN nq)
  have B2 := Lib.hid (below_drewN0 B1.out nq)
  have d2 : (w1.drewN nq).cell? ⟨F.gS, 2, none⟩ = some (.int .i32 t'.ch) := by rw [S2.out.blkS.cell]; rfl
  clear c0 c3 H1 B1 HFS
  generalize w1.drewN nq = w2 at S2 B2 d2 ⊢

  have HL := Lib.hid hL
  have HN := Lib.hid hn
  have hcase := of_decide_eq_true hn
  have hpos : 0 ≤ t'.ch := by omega
  have hlt := (step_of HGT.out hpos).lt
  have hal : asciiLetter t'.ch = false := decide_eq_false (by omega)
  clear hL hn
  go_wp2_with (go_at_call 32; refine Hid.out ?_)
  refine Lib.hid ?_
  refine (isLetter_ascii t'.ch w2 (by omega)).mono ?_
  rintro e w' ⟨rfl, rfl⟩
  rw [hal]
  clear hal hpos
  by_cases hd : 48 ≤ t'.ch ∧ t'.ch ≤ 57
  · obtain ⟨i1, i2⟩ := hd
    clear hcase
    have HNM := Lib.hid (scanNumber_any F src t' w2 S2.out HGT.out hlt (by omega))
    go_wp2_with (go_at_call 36; refine Hid.out ?_)
    refine Lib.hid ?_
    refine HNM.out.mono ?_
    rintro e w4 ⟨k, z, hr, hw, rfl, hs4, hb4⟩
    have HT : Hid (TokR src t' k (cut src t'.off z.off) (fin true z)) := Lib.hid (TokR.num HL.out HN.out hr)
    have S4 := Lib.hid hs4
    have B4 := Lib.hid (B2.out.trans hb4)
    clear hs4 hb4 hr hw HNM S2 B2

    have d9 : w4.cell? ⟨F.gS, 9, none⟩ = some (.int .i64 (z).mode) := by rw [S4.out.blkS.cell]; rfl
    have d6 : w4.cell? ⟨F.gS, 6, none⟩ = some (.bool (z).semi) := by rw [S4.out.blkS.cell]; rfl
    have f6 := S4.out.blkS.free 6
    rcases hm : (bits .and .i64 (z).mode 2 == 0) with _ | _
    · have HF := Lib.hid (fin_no (b := true) hm)
      go_wp2_with fail
      go_ret3
      exact ScanPost.of HS0.out HT.out (by rw [HF.out]; exact S4.out) B4.out
    · have HF := Lib.hid (fin_yes (b := true) hm)
      have HSC := Lib.hid (S4.out.setSemi (true))
      have HBC := Lib.hid (B4.out.trans (S4.out.put_below 6 (.bool (true))))
      go_wp2_with fail
      go_ret3
      exact ScanPost.of HS0.out HT.out (by rw [HF.out]; exact HSC.out) HBC.out
  · obtain ⟨h46, p1, p2⟩ : t'.ch = 46 ∧ 48 ≤ bt src t'.rd ∧ bt src t'.rd ≤ 57 := by
      rcases hcase with h | h
      · exact absurd h hd
      · exact h
    have HPK := Lib.hid (peek_any F src t' w2 S2.out)
    have HPD : Hid (∀ n, Calls Tryf.prog 35 #[.pointer (some ⟨F.gS, 0, none⟩)] (w2.drewN n) fun e w' => e = .returned (.int .u8 (bt src t'.rd : Int)) ∧ ∃ m, w' = w2.drewN m) := Lib.hid (fun n => (peek_any F src t' (w2.drewN n) (S2.out.drewN n)).mono (fun _ _ ⟨h1, m, h2⟩ => ⟨h1, _, h2.trans (World.drewN_drewN _ _ _)⟩))
    obtain ⟨pk, hpk⟩ : ∃ pk, bt src t'.rd = pk := ⟨_, rfl⟩
    rw [hpk] at HPK HPD p1 p2
    rw [h46] at d2
    have e2 : w2.cell? ⟨F.gS, 2, none⟩ = some (.int .i32 46) := d2
    have i1 : (48 : Int) ≤ (pk : Int) := by omega
    have i2 : (pk : Int) ≤ 57 := by omega
    have H46 := Lib.hid h46
    rw [h46]
    clear hd hcase hpk h46 d2
    go_wp2_with (go_at_call 35; refine Hid.out ?_)
    refine Lib.hid ?_
    refine HPK.out.mono ?_
    rintro e wp1 ⟨rfl, n1, rfl⟩
    go_wp2_with (go_at_call 35; refine Hid.out ?_)
    refine Lib.hid ?_
    refine (HPD.out n1).mono ?_
    rintro e wp2 ⟨rfl, n2, rfl⟩
    have SA := Lib.hid (S2.out.drewN n2)
    have BA := Lib.hid (below_drewN0 B2.out n2)
    generalize w2.drewN n2 = wA at SA BA ⊢
    clear S2 B2 HPK HPD e2
    have HNM := Lib.hid (scanNumber_any F src t' wA SA.out HGT.out hlt (by omega))
    go_wp2_with (go_at_call 36; refine Hid.out ?_)
    refine Lib.hid ?_
    refine HNM.out.mono ?_
    rintro e w4 ⟨k, z, hr, hw, rfl, hs4, hb4⟩
    have HT : Hid (TokR src t' k (cut src t'.off z.off) (fin true z)) := Lib.hid (TokR.num HL.out HN.out hr)
    have S4 := Lib.hid hs4
    have B4 := Lib.hid (BA.out.trans hb4)
    clear hs4 hb4 hr hw HNM SA BA

    have d9 : w4.cell? ⟨F.gS, 9, none⟩ = some (.int .i64 (z).mode) := by rw [S4.out.blkS.cell]; rfl
    have d6 : w4.cell? ⟨F.gS, 6, none⟩ = some (.bool (z).semi) := by rw [S4.out.blkS.cell]; rfl
    have f6 := S4.out.blkS.free 6
    rcases hm : (bits .and .i64 (z).mode 2 == 0) with _ | _
    · have HF := Lib.hid (fin_no (b := true) hm)
      go_wp2_with fail
      go_ret3
      exact ScanPost.of HS0.out HT.out (by rw [HF.out]; exact S4.out) B4.out
    · have HF := Lib.hid (fin_yes (b := true) hm)
      have HSC := Lib.hid (S4.out.setSemi (true))
      have HBC := Lib.hid (B4.out.trans (S4.out.put_below 6 (.bool (true))))
      go_wp2_with fail
      go_ret3
      exact ScanPost.of HS0.out HT.out (by rw [HF.out]; exact HSC.out) HBC.out

theorem tok_below {F : Fix} {W0 w : World} (hB : F.B = W0.heap.size) (h : TokCells W0) (hb : Below F.B W0 w) : TokCells w := by
  intro i hi
  have h0 := h i hi
  have hlt := World.block_lt_of_cell? W0 _ h0
  rw [hB] at hb
  exact (hb.cell hlt).trans h0

set_option maxHeartbeats 8000000 in
theorem scan_ident (F : Fix) (src : List UInt8) (s t : St) (W0 w : World) (hE : Env F W0) (hb0 : Below F.B W0 w) (h : SC F src s w) (hg : Good src s) (hsk : SkipR src s t) (hway : SkWay src s t) (hbs : F.fx.base ≤ 1000000) (hec : s.ec ≤ 90000000000) (hL : isLetterG t.ch = true) (hTk : TokCells W0) :
    Calls Tryf.prog 11 #[.pointer (some ⟨F.gS, 0, none⟩)] w (ScanPost F src s w) := by
  have hte : t.ec ≤ 90001048576 := by have := hway.ec; have := hway.good.le; have := h.len; omega
  have hlen := h.len
  have hoff := hway.good.le.2.2
  have HSK := Lib.hid (skip_any F src s w h hg (by omega))
  have HGT := Lib.hid hway.good
  have HE := Lib.hid hE
  have HB0 := Lib.hid hb0
  have HS0 := Lib.hid hsk
  have HKP := Lib.hid hsk.kp
  clear h hg hsk hway hE hb0
  go_enter Tryf.func11, Tryf.ntmps11
  go_wp2_with (go_at_call 30; refine Hid.out ?_)
  refine Lib.hid ?_
  refine HSK.out.mono ?_
  rintro e w1 ⟨t', rfl, hsk', _, hs1, hb1⟩
  obtain rfl := hsk'.det HS0.out
  have c0 : w1.cell? ⟨F.gS, 0, none⟩ = some (.pointer (some ⟨F.gF, 0, none⟩)) := by rw [hs1.blkS.cell]; rfl
  have c3 : w1.cell? ⟨F.gS, 3, none⟩ = some (.int .i64 (t'.off : Int)) := by rw [hs1.blkS.cell]; rfl
  have HFS : Hid (∀ n, Calls Tryf.prog 31 #[.pointer (some ⟨F.gF, 0, none⟩), .int .i64 (t'.off : Int)] (w1.drewN n) fun e w' => e = .returned (.int .i64 ((F.fx.base : Int) + (t'.off : Int))) ∧ w' = w1.drewN n) := Lib.hid (fun n => by
    obtain ⟨lv, hlb, _⟩ := (hs1.drewN n).file
    refine (fsp_any F.gF F.fx src.length t'.off lv _ hlb hs1.off hs1.len).mono (fun _ _ ⟨a, b⟩ => ⟨a.trans ?_, b.symm⟩)
    rw [show wrap64 ((F.fx.base : Int) + (t'.off : Int)) = (F.fx.base : Int) + (t'.off : Int) from wrap_small _ (by omega) (by omega)])
  have H1 := Lib.hid hs1
  have B1 := Lib.hid hb1
  clear hs1 hb1 HSK hsk'
  go_wp2_with fail
  go_quiet ((go_at_call 31; exact Calls.quiet_of_same (HFS.out _)))
  have S2 := Lib.hid (H1.out.drewN nq)
  have B2 := Lib.hid (below_drewN0 B1.out nq)
  have d2 : (w1.drewN nq).cell? ⟨F.gS, 2, none⟩ = some (.int .i32 t'.ch) := by rw [S2.out.blkS.cell]; rfl
  clear c0 c3 H1 B1 HFS
  generalize w1.drewN nq = w2 at S2 B2 d2 ⊢

  have HL := Lib.hid hL
  have HTK := Lib.hid hTk
  have hpos : 65 ≤ t'.ch := by
    have h := hL
    unfold isLetterG asciiLetter at h
    simp only [Bool.or_eq_true, Bool.and_eq_true, decide_eq_true_eq] at h
    omega
  have hlt := (step_of HGT.out (by omega)).lt
  have hch := S2.out.ch
  have HIL := Lib.hid (isLetter_any t'.ch w2 (by omega) (HE.out.letters (HB0.out.trans B2.out)))
  rw [HL.out] at HIL
  clear hL hTk hpos hch
  go_wp2_with (go_at_call 32; refine Hid.out ?_)
  refine Lib.hid ?_
  refine HIL.out.mono ?_
  rintro e w3 ⟨rfl, hb3⟩
  have hs3 := S2.out.below hb3
  have S3 := Lib.hid hs3
  have B3 := Lib.hid (B2.out.trans (hb3.mono (by have := S2.out.hS; have := S2.out.blkS.lt; omega)))
  clear hs3 hb3 HIL S2 B2 d2
  have HID := Lib.hid (scanIdA_any F src t' W0 w3 HE.out (HB0.out.trans B3.out) S3.out HGT.out hlt (by omega))
  go_wp2_with (go_at_call 33; refine Hid.out ?_)
  refine Lib.hid ?_
  refine HID.out.mono ?_
  rintro e w4 ⟨z, hr, hw, rfl, hs4, hb4⟩
  have S4 := Lib.hid hs4
  have B4 := Lib.hid (B3.out.trans hb4)
  have HLK := Lib.hid (lookup_any (cut src t'.off z.off) w4 (tok_below HE.out.base HTK.out (HB0.out.trans B4.out)))
  obtain ⟨lit, hlit⟩ : ∃ lit, cut src t'.off z.off = lit := ⟨_, rfl⟩
  obtain ⟨k, hk⟩ : ∃ k, lookup lit = k := ⟨_, rfl⟩
  have HT0 : Hid (TokR src t' k lit (fin (semiTok k) z)) := Lib.hid (by rw [← hk, ← hlit]; exact TokR.ident HL.out hr)
  rw [hlit, hk] at HLK
  rw [hlit]
  clear hs4 hb4 hr hw HID S3 B3 hlit hk
  go_wp2_with (go_at_call 34; refine Hid.out ?_)
  refine Lib.hid ?_
  refine HLK.out.mono ?_
  rintro e w' ⟨rfl, rfl⟩
  go_upto_if 242 with fail
  go_cut [242] (fun v242 wx => v242 = .bool (semiTok k) ∧ w4 = wx)
  case first =>
    by_cases h4 : k = 4
    · have t4 : (k == 4) = true := by simpa using h4
      have HF : Hid (semiTok k = true) := Lib.hid (by rw [h4]; rfl)
      clear h4
      go_wp2_with fail
      go_meet
      exact ⟨by first | (rw [HF.out]; done) | (rw [HF.out, t4]), rfl⟩
    have t4 : (k == 4) = false := by simpa using h4
    by_cases h60 : k = 60
    · have t60 : (k == 60) = true := by simpa using h60
      have HF : Hid (semiTok k = true) := Lib.hid (by rw [h60]; rfl)
      clear h4 h60
      go_wp2_with fail
      go_meet
      exact ⟨by first | (rw [HF.out]; done) | (rw [HF.out, t60]), rfl⟩
    have t60 : (k == 60) = false := by simpa using h60
    by_cases h61 : k = 61
    · have t61 : (k == 61) = true := by simpa using h61
      have HF : Hid (semiTok k = true) := Lib.hid (by rw [h61]; rfl)
      clear h4 h60 h61
      go_wp2_with fail
      go_meet
      exact ⟨by first | (rw [HF.out]; done) | (rw [HF.out, t61]), rfl⟩
    have t61 : (k == 61) = false := by simpa using h61
    by_cases h68 : k = 68
    · have t68 : (k == 68) = true := by simpa using h68
      have HF : Hid (semiTok k = true) := Lib.hid (by rw [h68]; rfl)
      clear h4 h60 h61 h68
      go_wp2_with fail
      go_meet
      exact ⟨by first | (rw [HF.out]; done) | (rw [HF.out, t68]), rfl⟩
    have t68 : (k == 68) = false := by simpa using h68
    by_cases h69 : k = 69
    · have t69 : (k == 69) = true := by simpa using h69
      have HF : Hid (semiTok k = true) := Lib.hid (by rw [h69]; rfl)
      clear h4 h60 h61 h68 h69
      go_wp2_with fail
      go_meet
      exact ⟨by first | (rw [HF.out]; done) | (rw [HF.out, t69]), rfl⟩
    have t69 : (k == 69) = false := by simpa using h69
    by_cases h70 : k = 70
    · have t70 : (k == 70) = true := by simpa using h70
      have HF : Hid (semiTok k = true) := Lib.hid (by rw [h70]; rfl)
      clear h4 h60 h61 h68 h69 h70
      go_wp2_with fail
      go_meet
      exact ⟨by first | (rw [HF.out]; done) | (rw [HF.out, t70]), rfl⟩
    have t70 : (k == 70) = false := by simpa using h70
    by_cases h71 : k = 71
    · have t71 : (k == 71) = true := by simpa using h71
      have HF : Hid (semiTok k = true) := Lib.hid (by rw [h71]; rfl)
      clear h4 h60 h61 h68 h69 h70 h71
      go_wp2_with fail
      go_meet
      exact ⟨by first | (rw [HF.out]; done) | (rw [HF.out, t71]), rfl⟩
    have t71 : (k == 71) = false := by simpa using h71
    by_cases h73 : k = 73
    · have t73 : (k == 73) = true := by simpa using h73
      have HF : Hid (semiTok k = true) := Lib.hid (by rw [h73]; rfl)
      clear h4 h60 h61 h68 h69 h70 h71 h73
      go_wp2_with fail
      go_meet
      exact ⟨by first | (rw [HF.out]; done) | (rw [HF.out, t73]), rfl⟩
    have t73 : (k == 73) = false := by simpa using h73
    have HF : Hid (semiTok k = false) := Lib.hid (by simp [semiTok, t4, t60, t61, t68, t69, t70, t71, t73])
    clear h4 h60 h61 h68 h69 h70 h71 h73
    go_wp2_with fail
    go_meet
    exact ⟨by first | (rw [HF.out]; done) | (rw [HF.out, t73]), rfl⟩
  case rest =>
  obtain ⟨rfl, rfl⟩ := hcut
  rcases hq : semiTok k with _ | _
  · have HT : Hid (TokR src t' k lit (fin false z)) := Lib.hid (by have := HT0.out; rw [hq] at this; exact this)
    clear hq
    have d9 : w4.cell? ⟨F.gS, 9, none⟩ = some (.int .i64 (z).mode) := by rw [S4.out.blkS.cell]; rfl
    have d6 : w4.cell? ⟨F.gS, 6, none⟩ = some (.bool (z).semi) := by rw [S4.out.blkS.cell]; rfl
    have f6 := S4.out.blkS.free 6
    rcases hm : (bits .and .i64 (z).mode 2 == 0) with _ | _
    · have HF := Lib.hid (fin_no (b := false) hm)
      go_wp2_with fail
      go_ret3
      exact ScanPost.of HS0.out HT.out (by rw [HF.out]; exact S4.out) B4.out
    · have HF := Lib.hid (fin_yes (b := false) hm)
      have HSC := Lib.hid (S4.out.setSemi (false))
      have HBC := Lib.hid (B4.out.trans (S4.out.put_below 6 (.bool (false))))
      go_wp2_with fail
      go_ret3
      exact ScanPost.of HS0.out HT.out (by rw [HF.out]; exact HSC.out) HBC.out
  · have HT : Hid (TokR src t' k lit (fin true z)) := Lib.hid (by have := HT0.out; rw [hq] at this; exact this)
    clear hq
    have d9 : w4.cell? ⟨F.gS, 9, none⟩ = some (.int .i64 (z).mode) := by rw [S4.out.blkS.cell]; rfl
    have d6 : w4.cell? ⟨F.gS, 6, none⟩ = some (.bool (z).semi) := by rw [S4.out.blkS.cell]; rfl
    have f6 := S4.out.blkS.free 6
    rcases hm : (bits .and .i64 (z).mode 2 == 0) with _ | _
    · have HF := Lib.hid (fin_no (b := true) hm)
      go_wp2_with fail
      go_ret3
      exact ScanPost.of HS0.out HT.out (by rw [HF.out]; exact S4.out) B4.out
    · have HF := Lib.hid (fin_yes (b := true) hm)
      have HSC := Lib.hid (S4.out.setSemi (true))
      have HBC := Lib.hid (B4.out.trans (S4.out.put_below 6 (.bool (true))))
      go_wp2_with fail
      go_ret3
      exact ScanPost.of HS0.out HT.out (by rw [HF.out]; exact HSC.out) HBC.out
end Go.Proofs.YtamfekpcoppbgaaFmt
