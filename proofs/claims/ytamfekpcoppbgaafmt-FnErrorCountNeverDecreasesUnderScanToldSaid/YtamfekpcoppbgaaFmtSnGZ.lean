/-
  Scan at runes that open nothing. Conditions: as stated.
  Scan at a slash that opens no comment. Conditions: as stated.
  Scan at comments. Conditions: as stated.
  Scan: its whole contract. Conditions: as stated.
-/
import Derived.Test.YtamfekpcoppbgaaFmtSnP
import Derived.Test.YtamfekpcoppbgaaFmtSnW
import Derived.Test.YtamfekpcoppbgaaFmtSnAC
import Derived.Test.YtamfekpcoppbgaaFmtSnDF
namespace Go.Proofs.YtamfekpcoppbgaaFmt
open Go.RowKit
set_option maxRecDepth 100000
set_option linter.unusedVariables false

set_option maxHeartbeats 8000000 in
theorem scan_ill (F : Fix) (src : List UInt8) (s t : St) (W0 w : World) (hE : Env F W0) (hb0 : Below F.B W0 w) (h : SC F src s w) (hg : Good src s) (hsk : SkipR src s t) (hway : SkWay src s t) (hbs : F.fx.base ≤ 1000000) (hec : s.ec ≤ 90000000000) (I : Go.Stop.Interp) (hI : I.answers W0.tape) (hL : isLetterG t.ch = false) (hn : numC src t = false) (ho : other t.ch = true) :
    Calls Tryf.prog 11 #[.pointer (some ⟨F.gS, 0, none⟩)] w (ScanPost F src s w) := by
  have hte : t.ec ≤ 90001048576 := by have := hway.ec; have := hway.good.le; have := h.len; omega
  have hlen := h.len
  have hoff := hway.good.le.2.2
  have HSK := Lib.hid (skip_any F src s w h hg (by omega))
  have HGT := Lib.hid hway.good
  have HE := Lib.hid hE
  have HB0 := Lib.hid hb0
  have HS0 := Lib.hid hsk
  have HKP := Lib.hid hsk.kp
  clear h hg hsk hway hE hb0
  go_enter Tryf.func11, Tryf.ntmps11
  go_wp2_with (go_at_call 30; refine Hid.out ?_)
  refine Lib.hid ?_
  refine HSK.out.mono ?_
  rintro e w1 ⟨t', rfl, hsk', _, hs1, hb1⟩
  obtain rfl := hsk'.det HS0.out
  have c0 : w1.cell? ⟨F.gS, 0, none⟩ = some (.pointer (some ⟨F.gF, 0, none⟩)) := by rw [hs1.blkS.cell]; rfl
  have c3 : w1.cell? ⟨F.gS, 3, none⟩ = some (.int .i64 (t'.off : Int)) := by rw [hs1.blkS.cell]; rfl
  have HFS : Hid (∀ n, Calls Tryf.prog 31 #[.pointer (some ⟨F.gF, 0, none⟩), .int .i64 (t'.off : Int)] (w1.drewN n) fun e w' => e = .returned (.int .i64 ((F.fx.base : Int) + (t'.off : Int))) ∧ w' = w1.drewN n) := Lib.hid (fun n => by
    obtain ⟨lv, hlb, _⟩ := (hs1.drewN n).file
    refine (fsp_any F.gF F.fx src.length t'.off lv _ hlb hs1.off hs1.len).mono (fun _ _ ⟨a, b⟩ => ⟨a.trans ?_, b.symm⟩)
    rw [show wrap64 ((F.fx.base : Int) + (t'.off : Int)) = (F.fx.base : Int) + (t'.off : Int) from wrap_small _ (by omega) (by omega)])
  have H1 := Lib.hid hs1
  have B1 := Lib.hid hb1
  clear hs1 hb1 HSK hsk'
  go_wp2_with fail
  go_quiet ((go_at_call 31; exact Calls.quiet_of_same (HFS.out _)))
  have S2 := Lib.hid (H1.out.drewN nq)
  have B2 := Lib.hid (below_drewN0 B1.out nq)
  have d2 : (w1.drewN nq).cell? ⟨F.gS, 2, none⟩ = some (.int .i32 t'.ch) := by rw [S2.out.blkS.cell]; rfl
  clear c0 c3 H1 B1 HFS
  generalize w1.drewN nq = w2 at S2 B2 d2 ⊢

  have HL := Lib.hid hL
  have HN := Lib.hid hn
  have HO := Lib.hid ho
  have hch := S2.out.ch
  have hoo := of_decide_eq_true ho
  have hnn := of_decide_eq_false hn
  have HIL := Lib.hid (isLetter_any t'.ch w2 (by omega) (HE.out.letters (HB0.out.trans B2.out)))
  rw [HL.out] at HIL
  have hdig : ¬ (48 ≤ t'.ch ∧ t'.ch ≤ 57) := fun h => hnn (Or.inl h)
  have om1 : (t'.ch == -1) = false := by simp; omega
  have o10 : (t'.ch == 10) = false := by simp; omega
  have o34 : (t'.ch == 34) = false := by simp; omega
  have o39 : (t'.ch == 39) = false := by simp; omega
  have o96 : (t'.ch == 96) = false := by simp; omega
  have o58 : (t'.ch == 58) = false := by simp; omega
  have o46 : (t'.ch == 46) = false := by simp; omega
  have o44 : (t'.ch == 44) = false := by simp; omega
  have o63 : (t'.ch == 63) = false := by simp; omega
  have o59 : (t'.ch == 59) = false := by simp; omega
  have o40 : (t'.ch == 40) = false := by simp; omega
  have o41 : (t'.ch == 41) = false := by simp; omega
  have o91 : (t'.ch == 91) = false := by simp; omega
  have o93 : (t'.ch == 93) = false := by simp; omega
  have o123 : (t'.ch == 123) = false := by simp; omega
  have o125 : (t'.ch == 125) = false := by simp; omega
  have o43 : (t'.ch == 43) = false := by simp; omega
  have o45 : (t'.ch == 45) = false := by simp; omega
  have o42 : (t'.ch == 42) = false := by simp; omega
  have o47 : (t'.ch == 47) = false := by simp; omega
  have o37 : (t'.ch == 37) = false := by simp; omega
  have o94 : (t'.ch == 94) = false := by simp; omega
  have o60 : (t'.ch == 60) = false := by simp; omega
  have o62 : (t'.ch == 62) = false := by simp; omega
  have o61 : (t'.ch == 61) = false := by simp; omega
  have o33 : (t'.ch == 33) = false := by simp; omega
  have o38 : (t'.ch == 38) = false := by simp; omega
  have o124 : (t'.ch == 124) = false := by simp; omega
  have HD := Lib.hid hdig
  clear hL hn ho hoo hnn hdig
  go_wp2_with (go_at_call 32; refine Hid.out ?_)
  refine Lib.hid ?_
  refine HIL.out.mono ?_
  rintro e wl ⟨rfl, hb3⟩
  have hs3 := S2.out.below hb3
  have SL := Lib.hid hs3
  have BL := Lib.hid (B2.out.trans (hb3.mono (by have := S2.out.hS; have := S2.out.blkS.lt; omega)))
  clear hs3 hb3 HIL S2 B2 d2
  have hdd : (¬ 48 ≤ t'.ch) ∨ (48 ≤ t'.ch ∧ ¬ t'.ch ≤ 57) := by
    by_cases h : 48 ≤ t'.ch
    · exact Or.inr ⟨h, fun h2 => HD.out ⟨h, h2⟩⟩
    · exact Or.inl h
  have h46 : (t'.ch == 46) = false := o46
  go_upto_region 119 with fail
  go_cut [251] (fun v251 wx => v251 = .bool false ∧ wl = wx)
  case first =>
    rcases hdd with h1 | ⟨h1, h2⟩
    · have q1 : decide (48 ≤ t'.ch) = false := decide_eq_false (by omega)
      go_wp2_with fail
      go_meet
      exact ⟨rfl, rfl⟩
    · have q1 : decide (48 ≤ t'.ch) = true := decide_eq_true (by omega)
      have q2 : decide (t'.ch ≤ 57) = false := decide_eq_false (by omega)
      go_wp2_with fail
      go_meet
      exact ⟨rfl, rfl⟩
  case rest =>
  obtain ⟨rfl, rfl⟩ := hcut

  go_wp2_with (go_at_call 37; refine Hid.out ?_)
  refine Lib.hid ?_
  refine (next_any F src t' _ SL.out (by omega)).mono ?_
  rintro e w3 ⟨rfl, hs3, hb3⟩
  obtain ⟨u, hu⟩ : ∃ u, nx src t' = u := ⟨_, rfl⟩
  have hue := nx_ec1 src t'
  rw [hu] at hs3 hue
  have HU := Lib.hid hu
  have S3 := Lib.hid hs3
  have B3 := Lib.hid (BL.out.trans hb3)
  clear hs3 hb3 hu SL BL

  have hus : u.semi = t'.semi := by rw [← HU.out]; exact nx_semi src t'
  have HUS := Lib.hid hus
  have hlit : (⟨(runeL t'.ch).toArray⟩ : ByteArray) = Utf8.encode t'.ch := by unfold runeL; simp
  have HLI := Lib.hid hlit
  clear hus hlit

  by_cases hb : t'.ch = 65279
  · have tb : (t'.ch != 65279) = false := by simp [hb]
    have tb2 : (t'.ch == 65279) = true := by simp [hb]
    have HBB := Lib.hid hb
    clear hb
    have HT : Hid (TokR src t' 0 (runeL t'.ch) (fin t'.semi (u))) := Lib.hid (by have := TokR.ill HL.out HN.out HO.out; rw [if_pos HBB.out, HU.out] at this; exact this)

    have d9 : w3.cell? ⟨F.gS, 9, none⟩ = some (.int .i64 (u).mode) := by rw [S3.out.blkS.cell]; rfl
    have d6 : w3.cell? ⟨F.gS, 6, none⟩ = some (.bool t'.semi) := by rw [S3.out.blkS.cell, ← HUS.out]; rfl
    have f6 := S3.out.blkS.free 6
    rcases hm : (bits .and .i64 (u).mode 2 == 0) with _ | _
    · have HF := Lib.hid (fin_no (b := t'.semi) hm)
      go_wp2_with fail
      go_ret3
      rw [← HLI.out]
      exact ScanPost.of HS0.out HT.out (by rw [HF.out]; exact S3.out) B3.out
    · have HF := Lib.hid (fin_yes (b := t'.semi) hm)
      have HSC := Lib.hid (S3.out.setSemi (t'.semi))
      have HBC := Lib.hid (B3.out.trans (S3.out.put_below 6 (.bool (t'.semi))))
      go_wp2_with fail
      go_ret3
      rw [← HLI.out]
      exact ScanPost.of HS0.out HT.out (by rw [HF.out]; exact HSC.out) HBC.out
  · have tb : (t'.ch != 65279) = true := by simpa using hb
    have tb2 : (t'.ch == 65279) = false := by simpa using hb
    have HBB := Lib.hid hb
    clear hb
    have HOF : Hid (Calls Tryf.prog 44 #[.pointer (some ⟨F.gF, 0, none⟩), .int .i64 ((F.fx.base : Int) + (t'.off : Int))] w3 fun e w' => e = .returned (.int .i64 (t'.off : Int)) ∧ ∃ n, w' = w3.drewN n) := Lib.hid (by
      obtain ⟨lv, hlb, _⟩ := S3.out.file
      exact offset_any F.gF F.fx src.length t'.off lv w3 hlb hoff hlen hbs)
    have c0 : w3.cell? ⟨F.gS, 0, none⟩ = some (.pointer (some ⟨F.gF, 0, none⟩)) := by rw [S3.out.blkS.cell]; rfl
    go_wp2_with (go_at_call 44; refine Hid.out ?_)
    refine Lib.hid ?_
    refine HOF.out.mono ?_
    rintro e wq ⟨rfl, n5, rfl⟩
    have SQ := Lib.hid (S3.out.drewN n5)
    have BQ := Lib.hid (below_drewN0 B3.out n5)
    generalize w3.drewN n5 = w5 at SQ BQ ⊢
    have hb5 : Below w5.heap.size w5 (w5.alloc (.cells #[.iface 21 (.int .i32 t'.ch)] 20)).drew := ((Below.refl _ _).alloc (Nat.le_refl _) _).drew
    obtain ⟨X, hX⟩ := spf_any I ⟨#[105, 108, 108, 101, 103, 97, 108, 32, 99, 104, 97, 114, 97, 99, 116, 101, 114, 32, 37, 35, 85]⟩ w5.heap.size t'.ch (w5.alloc (.cells #[.iface 21 (.int .i32 t'.ch)] 20)) (by show I.answers w5.tape; rw [(HB0.out.trans BQ.out).tape]; exact hI) (by rw [(Blk.new w5 _ _).cell]; rfl)
    have S6 := Lib.hid (SQ.out.below hb5)
    have B6 := Lib.hid (BQ.out.trans (hb5.mono (by have := SQ.out.hS; have := SQ.out.blkS.lt; omega)))
    clear hb5 S3 B3 HOF c0 SQ BQ hI
    go_wp2_with (go_at_call 47; refine Hid.out ?_)
    refine Lib.hid ?_
    refine (err_any F src u _ _ _ S6.out (by omega)).mono ?_
    rintro e w4 ⟨rfl, hs4, hb4⟩
    have S4 := Lib.hid hs4
    have B4 := Lib.hid (B6.out.trans hb4)
    clear hs4 hb4 S6 B6 hX
    have HT : Hid (TokR src t' 0 (runeL t'.ch) (fin t'.semi (err u))) := Lib.hid (by have := TokR.ill HL.out HN.out HO.out; rw [if_neg HBB.out, HU.out] at this; exact this)

    have d9 : w4.cell? ⟨F.gS, 9, none⟩ = some (.int .i64 (err u).mode) := by rw [S4.out.blkS.cell]; rfl
    have d6 : w4.cell? ⟨F.gS, 6, none⟩ = some (.bool t'.semi) := by rw [S4.out.blkS.cell, ← HUS.out]; rfl
    have f6 := S4.out.blkS.free 6
    rcases hm : (bits .and .i64 (err u).mode 2 == 0) with _ | _
    · have HF := Lib.hid (fin_no (b := t'.semi) hm)
      go_wp2_with fail
      go_ret3
      rw [← HLI.out]
      exact ScanPost.of HS0.out HT.out (by rw [HF.out]; exact S4.out) B4.out
    · have HF := Lib.hid (fin_yes (b := t'.semi) hm)
      have HSC := Lib.hid (S4.out.setSemi (t'.semi))
      have HBC := Lib.hid (B4.out.trans (S4.out.put_below 6 (.bool (t'.semi))))
      go_wp2_with fail
      go_ret3
      rw [← HLI.out]
      exact ScanPost.of HS0.out HT.out (by rw [HF.out]; exact HSC.out) HBC.out
end Go.Proofs.YtamfekpcoppbgaaFmt
namespace Go.Proofs.YtamfekpcoppbgaaFmt
open Go.RowKit
set_option maxRecDepth 100000
set_option linter.unusedVariables false

set_option maxHeartbeats 8000000 in
theorem scan_c47 (F : Fix) (src : List UInt8) (s t : St) (W0 w : World) (hE : Env F W0) (hb0 : Below F.B W0 w) (h : SC F src s w) (hg : Good src s) (hsk : SkipR src s t) (hway : SkWay src s t) (hbs : F.fx.base ≤ 1000000) (hec : s.ec ≤ 90000000000) (hch : t.ch = 47) (hc2 : ¬ ((nx src t).ch = 47 ∨ (nx src t).ch = 42)) :
    Calls Tryf.prog 11 #[.pointer (some ⟨F.gS, 0, none⟩)] w (ScanPost F src s w) := by
  have hte : t.ec ≤ 90001048576 := by have := hway.ec; have := hway.good.le; have := h.len; omega
  have hlen := h.len
  have hoff := hway.good.le.2.2
  have HSK := Lib.hid (skip_any F src s w h hg (by omega))
  have HGT := Lib.hid hway.good
  have HE := Lib.hid hE
  have HB0 := Lib.hid hb0
  have HS0 := Lib.hid hsk
  have HKP := Lib.hid hsk.kp
  clear h hg hsk hway hE hb0
  go_enter Tryf.func11, Tryf.ntmps11
  go_wp2_with (go_at_call 30; refine Hid.out ?_)
  refine Lib.hid ?_
  refine HSK.out.mono ?_
  rintro e w1 ⟨t', rfl, hsk', _, hs1, hb1⟩
  obtain rfl := hsk'.det HS0.out
  have c0 : w1.cell? ⟨F.gS, 0, none⟩ = some (.pointer (some ⟨F.gF, 0, none⟩)) := by rw [hs1.blkS.cell]; rfl
  have c3 : w1.cell? ⟨F.gS, 3, none⟩ = some (.int .i64 (t'.off : Int)) := by rw [hs1.blkS.cell]; rfl
  have HFS : Hid (∀ n, Calls Tryf.prog 31 #[.pointer (some ⟨F.gF, 0, none⟩), .int .i64 (t'.off : Int)] (w1.drewN n) fun e w' => e = .returned (.int .i64 ((F.fx.base : Int) + (t'.off : Int))) ∧ w' = w1.drewN n) := Lib.hid (fun n => by
    obtain ⟨lv, hlb, _⟩ := (hs1.drewN n).file
    refine (fsp_any F.gF F.fx src.length t'.off lv _ hlb hs1.off hs1.len).mono (fun _ _ ⟨a, b⟩ => ⟨a.trans ?_, b.symm⟩)
    rw [show wrap64 ((F.fx.base : Int) + (t'.off : Int)) = (F.fx.base : Int) + (t'.off : Int) from wrap_small _ (by omega) (by omega)])
  have H1 := Lib.hid hs1
  have B1 := Lib.hid hb1
  clear hs1 hb1 HSK hsk'
  go_wp2_with fail
  go_quiet ((go_at_call 31; exact Calls.quiet_of_same (HFS.out _)))
  have S2 := Lib.hid (H1.out.drewN nq)
  have B2 := Lib.hid (below_drewN0 B1.out nq)
  have d2 : (w1.drewN nq).cell? ⟨F.gS, 2, none⟩ = some (.int .i32 47) := by rw [S2.out.blkS.cell]; show some (Value.int .i32 _) = _; rw [hch]
  clear c0 c3 H1 B1 HFS
  generalize w1.drewN nq = w2 at S2 B2 d2 ⊢

  have HCH := Lib.hid hch
  have hal : asciiLetter 47 = false := by decide
  go_wp2_with (go_at_call 32; refine Hid.out ?_)
  refine Lib.hid ?_
  refine (isLetter_ascii 47 w2 (by omega)).mono ?_
  rintro e w' ⟨rfl, rfl⟩
  rw [hal]
  clear hch hal

  go_wp2_with (go_at_call 37; refine Hid.out ?_)
  refine Lib.hid ?_
  refine (next_any F src t' _ S2.out (by omega)).mono ?_
  rintro e w3 ⟨rfl, hs3, hb3⟩
  obtain ⟨u, hu⟩ : ∃ u, nx src t' = u := ⟨_, rfl⟩
  have hue := nx_ec1 src t'
  rw [hu] at hs3 hue
  have HU := Lib.hid hu
  have S3 := Lib.hid hs3
  have B3 := Lib.hid (B2.out.trans hb3)
  clear hs3 hb3 hu S2 B2 d2

  have e2 : w3.cell? ⟨F.gS, 2, none⟩ = some (.int .i32 u.ch) := by rw [S3.out.blkS.cell]; rfl
  have hcc : ¬ (u.ch = 47 ∨ u.ch = 42) := by rw [← HU.out]; exact hc2
  have t47 : (u.ch == 47) = false := by simp; omega
  have t42 : (u.ch == 42) = false := by simp; omega
  have HCC := Lib.hid hcc
  have HT0 : Hid (∀ r, sw2 src u 14 25 = r → TokR src t' r.1 [] (fin false r.2)) := Lib.hid (fun r hr => TokR.sym (by rw [HCH.out]; rfl) (by unfold numC; rw [HCH.out]; rfl) (by rw [symT_slash HCH.out (by rw [HU.out]; exact HCC.out), HU.out, hr]; rfl))
  have HSW := Lib.hid (switch2_any F src u 14 25 w3 S3.out (by omega))
  obtain ⟨r, hr⟩ : ∃ r, sw2 src u 14 25 = r := ⟨_, rfl⟩
  have HT := Lib.hid (HT0.out r hr)
  rw [hr] at HSW
  clear hr HT0 hcc hc2
  go_wp2_with (go_at_call 41; refine Hid.out ?_)
  refine Lib.hid ?_
  refine HSW.out.mono ?_
  rintro e w4 ⟨rfl, hs4, hb4⟩
  obtain ⟨k, v⟩ := r
  have S4 : Hid (SC F src v w4) := Lib.hid hs4
  have B4 := Lib.hid (B3.out.trans hb4)
  clear hs4 hb4 S3 B3 HSW e2

  have d9 : w4.cell? ⟨F.gS, 9, none⟩ = some (.int .i64 (v).mode) := by rw [S4.out.blkS.cell]; rfl
  have d6 : w4.cell? ⟨F.gS, 6, none⟩ = some (.bool (v).semi) := by rw [S4.out.blkS.cell]; rfl
  have f6 := S4.out.blkS.free 6
  rcases hm : (bits .and .i64 (v).mode 2 == 0) with _ | _
  · have HF := Lib.hid (fin_no (b := false) hm)
    go_wp2_with fail
    go_ret3
    exact ScanPost.of (k := k) (v := fin false v) HS0.out HT.out (by rw [HF.out]; exact S4.out) B4.out
  · have HF := Lib.hid (fin_yes (b := false) hm)
    have HSC := Lib.hid (S4.out.setSemi (false))
    have HBC := Lib.hid (B4.out.trans (S4.out.put_below 6 (.bool (false))))
    go_wp2_with fail
    go_ret3
    exact ScanPost.of (k := k) (v := fin false v) HS0.out HT.out (by rw [HF.out]; exact HSC.out) HBC.out
end Go.Proofs.YtamfekpcoppbgaaFmt
namespace Go.Proofs.YtamfekpcoppbgaaFmt
open Go.RowKit
set_option maxRecDepth 100000
set_option linter.unusedVariables false

set_option maxHeartbeats 8000000 in
theorem scan_com (F : Fix) (src : List UInt8) (s t : St) (W0 w : World) (hE : Env F W0) (hb0 : Below F.B W0 w) (h : SC F src s w) (hg : Good src s) (hsk : SkipR src s t) (hway : SkWay src s t) (hbs : F.fx.base ≤ 1000000) (hec : s.ec ≤ 90000000000) (hch : t.ch = 47) (hc2 : (nx src t).ch = 47 ∨ (nx src t).ch = 42) (E : Nat) (hpot : pot src.length s ≤ E) (hEb : E ≤ 90000000000) (ih : ∀ s' w', SC F src s' w' → Good src s' → Below F.B W0 w' → t.off < s'.off → s'.semi = false → s'.mode = s.mode → pot src.length s' ≤ E → Calls Tryf.prog 11 #[.pointer (some ⟨F.gS, 0, none⟩)] w' (ScanPost F src s' w')) :
    Calls Tryf.prog 11 #[.pointer (some ⟨F.gS, 0, none⟩)] w (ScanPost F src s w) := by
  have hcg := hway.good
  have hcw := hway
  have hte : t.ec ≤ 90001048576 := by have := hway.ec; have := hway.good.le; have := h.len; omega
  have hlen := h.len
  have hoff := hway.good.le.2.2
  have HSK := Lib.hid (skip_any F src s w h hg (by omega))
  have HGT := Lib.hid hway.good
  have HE := Lib.hid hE
  have HB0 := Lib.hid hb0
  have HS0 := Lib.hid hsk
  have HKP := Lib.hid hsk.kp
  clear h hg hsk hway hE hb0
  go_enter Tryf.func11, Tryf.ntmps11
  go_wp2_with (go_at_call 30; refine Hid.out ?_)
  refine Lib.hid ?_
  refine HSK.out.mono ?_
  rintro e w1 ⟨t', rfl, hsk', _, hs1, hb1⟩
  obtain rfl := hsk'.det HS0.out
  have c0 : w1.cell? ⟨F.gS, 0, none⟩ = some (.pointer (some ⟨F.gF, 0, none⟩)) := by rw [hs1.blkS.cell]; rfl
  have c3 : w1.cell? ⟨F.gS, 3, none⟩ = some (.int .i64 (t'.off : Int)) := by rw [hs1.blkS.cell]; rfl
  have HFS : Hid (∀ n, Calls Tryf.prog 31 #[.pointer (some ⟨F.gF, 0, none⟩), .int .i64 (t'.off : Int)] (w1.drewN n) fun e w' => e = .returned (.int .i64 ((F.fx.base : Int) + (t'.off : Int))) ∧ w' = w1.drewN n) := Lib.hid (fun n => by
    obtain ⟨lv, hlb, _⟩ := (hs1.drewN n).file
    refine (fsp_any F.gF F.fx src.length t'.off lv _ hlb hs1.off hs1.len).mono (fun _ _ ⟨a, b⟩ => ⟨a.trans ?_, b.symm⟩)
    rw [show wrap64 ((F.fx.base : Int) + (t'.off : Int)) = (F.fx.base : Int) + (t'.off : Int) from wrap_small _ (by omega) (by omega)])
  have H1 := Lib.hid hs1
  have B1 := Lib.hid hb1
  clear hs1 hb1 HSK hsk'
  go_wp2_with fail
  go_quiet ((go_at_call 31; exact Calls.quiet_of_same (HFS.out _)))
  have S2 := Lib.hid (H1.out.drewN nq)
  have B2 := Lib.hid (below_drewN0 B1.out nq)
  have d2 : (w1.drewN nq).cell? ⟨F.gS, 2, none⟩ = some (.int .i32 47) := by rw [S2.out.blkS.cell]; show some (Value.int .i32 _) = _; rw [hch]
  clear c0 c3 H1 B1 HFS
  generalize w1.drewN nq = w2 at S2 B2 d2 ⊢

  have HCH := Lib.hid hch
  have hal : asciiLetter 47 = false := by decide
  go_wp2_with (go_at_call 32; refine Hid.out ?_)
  refine Lib.hid ?_
  refine (isLetter_ascii 47 w2 (by omega)).mono ?_
  rintro e w' ⟨rfl, rfl⟩
  rw [hal]
  clear hch hal

  go_wp2_with (go_at_call 37; refine Hid.out ?_)
  refine Lib.hid ?_
  refine (next_any F src t' _ S2.out (by omega)).mono ?_
  rintro e w3 ⟨rfl, hs3, hb3⟩
  obtain ⟨u, hu⟩ : ∃ u, nx src t' = u := ⟨_, rfl⟩
  have hue := nx_ec1 src t'
  rw [hu] at hs3 hue
  have HU := Lib.hid hu
  have S3 := Lib.hid hs3
  have B3 := Lib.hid (B2.out.trans hb3)
  clear hs3 hb3 hu S2 B2 d2

  have hc3 : u.ch = 47 ∨ u.ch = 42 := by rw [← HU.out]; exact hc2
  have HC2 := Lib.hid hc2
  have HIH := Lib.hid ih
  have HCW := Lib.hid hcw
  have HPO := Lib.hid hpot
  clear ih hcg hcw hpot hc2
  have e2 : w3.cell? ⟨F.gS, 2, none⟩ = some (.int .i32 u.ch) := by rw [S3.out.blkS.cell]; rfl
  go_upto_region 73 with fail
  go_cut [141] (fun v141 wx => v141 = .bool true ∧ w3 = wx)
  case first =>
    by_cases h47 : u.ch = 47
    · have t47 : (u.ch == 47) = true := by simpa using h47
      clear h47 hc3
      go_wp2_with fail
      go_meet
      exact ⟨rfl, rfl⟩
    · have t47 : (u.ch == 47) = false := by simpa using h47
      have t42 : (u.ch == 42) = true := by simpa using hc3.resolve_left h47
      clear h47 hc3
      go_wp2_with fail
      go_meet
      exact ⟨rfl, rfl⟩
  case rest =>
  obtain ⟨rfl, rfl⟩ := hcut
  clear e2 hc3
  have hus : u.semi = t'.semi := by rw [← HU.out]; exact nx_semi src t'
  have d6 : w3.cell? ⟨F.gS, 6, none⟩ = some (.bool t'.semi) := by rw [S3.out.blkS.cell, ← hus]; rfl
  have hgu : Good src u := by rw [← HU.out]; exact (step_of HGT.out (by rw [HCH.out]; decide)).good
  have HGU := Lib.hid hgu
  have huo : u.off = t'.off + 1 := by rw [← HU.out]; exact (step_of HGT.out (by rw [HCH.out]; decide)).one (by rw [((Good.ascii HGT.out 47 (by omega)).1 HCH.out).2]; decide)
  clear hus hgu
  go_upto_region 74 with fail
  go_cut [149] (fun v149 wx => ∃ (b : Bool) (x : St), v149 = .bool b ∧ CX src t' b x ∧ SC F src x wx ∧ Below F.B w wx)
  case first =>
    rcases hm : t'.semi with _ | _
    · rw [hm] at d6
      have HCX : Hid (CX src t' false u) := Lib.hid (Or.inl ⟨rfl, Or.inl ⟨hm, HU.out.symm⟩⟩)
      clear hm
      go_wp2_with fail
      go_meet
      exact ⟨false, u, rfl, HCX.out, S3.out, B3.out⟩
    · rw [hm] at d6
      have HM := Lib.hid hm
      clear hm
      go_wp2_with (go_at_call 43; refine Hid.out ?_)
      refine Lib.hid ?_
      refine (fle_any F src u _ S3.out HGU.out (by omega) (by omega)).mono ?_
      rintro e w4 ⟨b, x, rfl, hf, hs4, hb4⟩
      have HCX : Hid (CX src t' b (nx src (rst (u.off - 1) x))) := Lib.hid (by
        rw [← HU.out] at hf ⊢
        cases b
        · exact Or.inl ⟨rfl, Or.inr ⟨HM.out, x, hf, rfl⟩⟩
        · exact Or.inr ⟨rfl, HM.out, x, hf, rfl⟩)
      have S4 := Lib.hid hs4
      have B4 := Lib.hid (B3.out.trans hb4)
      clear hf hs4 hb4
      go_wp2_with fail
      go_meet
      exact ⟨b, _, rfl, HCX.out, S4.out, B4.out⟩
  case rest =>
  obtain ⟨b, x, rfl, hcx, hsx, hbx⟩ := hcut
  have HCX := Lib.hid hcx
  have HXF := Lib.hid (hcx.f HGT.out HCH.out)
  have SX := Lib.hid hsx
  have BX := Lib.hid hbx
  clear hcx hsx hbx S3 B3 d6 HGU huo
  have hxe := HXF.out.ec
  have hxs : (if t'.semi = true then src.length + 1 - t'.off else 0) ≤ src.length + 1 := by split <;> omega
  rcases b with _ | _
  · have hxo := HXF.out.off
    have HCM := Lib.hid (comment_any F src x wc SX.out HXF.out.good (by omega) (by rw [hxo, Nat.add_sub_cancel]; exact HXF.out.prev) (by rw [HXF.out.ch]; exact HC2.out) (by omega))
    clear hxe hxs hxo
    go_wp2_with (go_at_call 45; refine Hid.out ?_)
    refine Lib.hid ?_
    refine HCM.out.mono ?_
    rintro e w4 ⟨z, txt, hr, hgz, hlo, hez, rfl, hs4, hb4⟩
    have HR := Lib.hid hr
    have hkz := hr.kp
    have hzm : z.mode = t'.mode := hkz.mode.trans HXF.out.mode
    have S4 := Lib.hid hs4
    have B4 := Lib.hid (BX.out.trans hb4)
    have HLO : Hid (t'.off < z.off) := Lib.hid (by have := HXF.out.off; omega)
    have HGZ := Lib.hid hgz
    have HZM := Lib.hid hzm
    clear hr hkz hgz hlo hez hs4 hb4 HCM SX BX hzm
    have d9 : w4.cell? ⟨F.gS, 9, none⟩ = some (.int .i64 z.mode) := by rw [S4.out.blkS.cell]; rfl
    rcases hm : (bits .and .i64 z.mode 1 == 0) with _ | _
    · have HT : Hid (TokR src t' 2 txt (fin false z)) := Lib.hid (TokR.comT HCH.out HC2.out HCX.out.no hm HR.out)
      have HM1 := Lib.hid hm
      go_upto_if 181 with fail
      clear hm
      have d9x := trivial
      have d6 : w4.cell? ⟨F.gS, 6, none⟩ = some (.bool (z).semi) := by rw [S4.out.blkS.cell]; rfl
      have f6 := S4.out.blkS.free 6
      rcases hm : (bits .and .i64 (z).mode 2 == 0) with _ | _
      · have HF := Lib.hid (fin_no (b := false) hm)
        go_wp2_with fail
        go_ret3
        exact ScanPost.of HS0.out HT.out (by rw [HF.out]; exact S4.out) B4.out
      · have HF := Lib.hid (fin_yes (b := false) hm)
        have HSC := Lib.hid (S4.out.setSemi (false))
        have HBC := Lib.hid (B4.out.trans (S4.out.put_below 6 (.bool (false))))
        go_wp2_with fail
        go_ret3
        exact ScanPost.of HS0.out HT.out (by rw [HF.out]; exact HSC.out) HBC.out
    · have HCS : Hid (comSkip z.mode = true) := Lib.hid hm
      have f6 := S4.out.blkS.free 6
      have d6 : w4.cell? ⟨F.gS, 6, none⟩ = some (.bool z.semi) := by rw [S4.out.blkS.cell]; rfl
      have HSC := Lib.hid (S4.out.setSemi false)
      have HBC := Lib.hid (B4.out.trans (S4.out.put_below 6 (.bool false)))
      have HPZ := Lib.hid (Nat.le_trans (pot_com HCW.out HXF.out HR.out) HPO.out)
      go_wp2_with (go_at_call 11; refine Hid.out ?_)
      refine Lib.hid ?_
      refine (HIH.out _ _ HSC.out HGZ.out (HB0.out.trans HBC.out) HLO.out rfl (HZM.out.trans HKP.out.mode) HPZ.out).mono ?_
      rintro e w5 ⟨k, l, o, v, hr, rfl, hs5, hb5⟩
      have HRR := Lib.hid (ScanR.com HS0.out HCH.out HC2.out HCX.out.no HCS.out HR.out hr)
      have S5 := Lib.hid hs5
      have B5 := Lib.hid (HBC.out.trans hb5)
      clear hr hs5 hb5 hm d9 d6 f6 HSC HBC HPZ
      go_wp2_with fail
      go_ret3
      exact ⟨k, l, o, v, HRR.out, rfl, S5.out, B5.out⟩
  · have HBK := Lib.hid (HCX.out.back)
    have HOF : Hid (∀ (y : St) (W : World), SC F src y W → Calls Tryf.prog 44 #[.pointer (some ⟨F.gF, 0, none⟩), .int .i64 ((F.fx.base : Int) + (t'.off : Int))] W fun e w' => e = .returned (.int .i64 (t'.off : Int)) ∧ ∃ n, w' = W.drewN n) := Lib.hid (fun y W h => by
      obtain ⟨lv, hlb, _⟩ := h.file
      exact offset_any F.gF F.fx src.length t'.off lv W hlb hoff hlen hbs)
    have H1 := Lib.hid (SX.out.setCh 47 (by omega))
    have B1 := Lib.hid (BX.out.trans (SX.out.put_below 2 (.int .i32 47)))
    have hlt := HXF.out.lt
    have f2 := SX.out.blkS.free 2
    have d2 : wc.cell? ⟨F.gS, 2, none⟩ = some (.int .i32 x.ch) := by rw [SX.out.blkS.cell]; rfl
    have c0 : (wc.setCell ⟨F.gS, 2, none⟩ (.int .i32 47)).cell? ⟨F.gS, 0, none⟩ = some (.pointer (some ⟨F.gF, 0, none⟩)) := by rw [H1.out.blkS.cell]; rfl
    clear hxe hxs SX BX
    go_wp2_with (go_at_call 44; refine Hid.out ?_)
    refine Lib.hid ?_
    refine (HOF.out _ _ H1.out).mono ?_
    rintro e wq ⟨rfl, n5, rfl⟩
    have S5 := Lib.hid (H1.out.drewN n5)
    have B5 := Lib.hid (below_drewN0 B1.out n5)
    generalize (wc.setCell ⟨F.gS, 2, none⟩ (.int .i32 47)).drewN n5 = w5 at S5 B5 ⊢
    have f3 := S5.out.blkS.free 3
    have d3 : w5.cell? ⟨F.gS, 3, none⟩ = some (.int .i64 (x.off : Int)) := by rw [S5.out.blkS.cell]; rfl
    have d4 : w5.cell? ⟨F.gS, 4, none⟩ = some (.int .i64 (x.rd : Int)) := by rw [S5.out.blkS.cell]; rfl
    have d6 : w5.cell? ⟨F.gS, 6, none⟩ = some (.bool x.semi) := by rw [S5.out.blkS.cell]; rfl
    have f4 := S5.out.blkS.free 4
    have f6 := S5.out.blkS.free 6
    have H6 := Lib.hid (((S5.out.setOff t'.off (by omega)).setRd (t'.off + 1) hlt).setSemi false)
    have B6 := Lib.hid (((B5.out.trans (S5.out.put_below 3 (.int .i64 (t'.off : Int)))).trans ((S5.out.setOff t'.off (by omega)).put_below 4 (.int .i64 ((t'.off + 1 : Nat) : Int)))).trans (((S5.out.setOff t'.off (by omega)).setRd (t'.off + 1) hlt).put_below 6 (.bool false)))
    simp only [Int.natCast_add, Int.cast_ofNat_Int] at H6 B6
    clear H1 B1 c0 f2 d2 HOF S5 B5
    go_wp2_with fail
    go_ret3
    obtain ⟨h1, y, h2, h3⟩ := HBK.out
    exact ScanPost.of HS0.out (TokR.comS HCH.out HC2.out h1 h2) (by rw [← h3]; exact H6.out) B6.out
end Go.Proofs.YtamfekpcoppbgaaFmt
namespace Go.Proofs.YtamfekpcoppbgaaFmt
open Go.RowKit
set_option maxRecDepth 100000
set_option linter.unusedVariables false

theorem scan_any (F : Fix) (src : List UInt8) (W0 : World) (hE : Env F W0) (I : Go.Stop.Interp) (hI : I.answers W0.tape) (hTk : TokCells W0) (hbs : F.fx.base ≤ 1000000) (E : Nat) (hEb : E ≤ 90000000000) :
    ∀ (d : Nat) (s : St) (w : World), src.length - s.off ≤ d → Below F.B W0 w → SC F src s w → Good src s → pot src.length s ≤ E →
      Calls Tryf.prog 11 #[.pointer (some ⟨F.gS, 0, none⟩)] w (ScanPost F src s w) := by
  intro d
  induction d using Nat.strongRecOn with
  | ind d ih =>
    intro s w hd hb0 h hg hp
    have hec : s.ec ≤ 90000000000 := by
      unfold pot at hp
      omega
    obtain ⟨t, hsk, hway⟩ := skip_ex src _ s hg (Nat.le_refl _)
    rcases hL : isLetterG t.ch with _ | _
    rotate_left
    · exact scan_ident F src s t W0 w hE hb0 h hg hsk hway hbs hec hL hTk
    rcases hn : numC src t with _ | _
    rotate_left
    · exact scan_num F src s t W0 w hE hb0 h hg hsk hway hbs hec hL hn
    by_cases hm1 : t.ch = -1
    · exact scan_eof F src s t W0 w hE hb0 h hg hsk hway hbs hec hm1
    by_cases h10 : t.ch = 10
    · exact scan_c10 F src s t W0 w hE hb0 h hg hsk hway hbs hec  h10
    by_cases h34 : t.ch = 34
    · exact scan_c34 F src s t W0 w hE hb0 h hg hsk hway hbs hec I hI h34
    by_cases h39 : t.ch = 39
    · exact scan_c39 F src s t W0 w hE hb0 h hg hsk hway hbs hec I hI h39
    by_cases h96 : t.ch = 96
    · exact scan_c96 F src s t W0 w hE hb0 h hg hsk hway hbs hec  h96
    by_cases h58 : t.ch = 58
    · exact scan_c58 F src s t W0 w hE hb0 h hg hsk hway hbs hec  h58
    by_cases h46 : t.ch = 46
    · exact scan_c46 F src s t W0 w hE hb0 h hg hsk hway hbs hec  h46 hn
    by_cases h44 : t.ch = 44
    · exact scan_c44 F src s t W0 w hE hb0 h hg hsk hway hbs hec  h44
    by_cases h63 : t.ch = 63
    · exact scan_c63 F src s t W0 w hE hb0 h hg hsk hway hbs hec  h63
    by_cases h59 : t.ch = 59
    · exact scan_c59 F src s t W0 w hE hb0 h hg hsk hway hbs hec  h59
    by_cases h40 : t.ch = 40
    · exact scan_c40 F src s t W0 w hE hb0 h hg hsk hway hbs hec  h40
    by_cases h41 : t.ch = 41
    · exact scan_c41 F src s t W0 w hE hb0 h hg hsk hway hbs hec  h41
    by_cases h91 : t.ch = 91
    · exact scan_c91 F src s t W0 w hE hb0 h hg hsk hway hbs hec  h91
    by_cases h93 : t.ch = 93
    · exact scan_c93 F src s t W0 w hE hb0 h hg hsk hway hbs hec  h93
    by_cases h123 : t.ch = 123
    · exact scan_c123 F src s t W0 w hE hb0 h hg hsk hway hbs hec  h123
    by_cases h125 : t.ch = 125
    · exact scan_c125 F src s t W0 w hE hb0 h hg hsk hway hbs hec  h125
    by_cases h43 : t.ch = 43
    · exact scan_c43 F src s t W0 w hE hb0 h hg hsk hway hbs hec  h43
    by_cases h45 : t.ch = 45
    · exact scan_c45 F src s t W0 w hE hb0 h hg hsk hway hbs hec  h45
    by_cases h42 : t.ch = 42
    · exact scan_c42 F src s t W0 w hE hb0 h hg hsk hway hbs hec  h42
    by_cases h37 : t.ch = 37
    · exact scan_c37 F src s t W0 w hE hb0 h hg hsk hway hbs hec  h37
    by_cases h94 : t.ch = 94
    · exact scan_c94 F src s t W0 w hE hb0 h hg hsk hway hbs hec  h94
    by_cases h60 : t.ch = 60
    · exact scan_c60 F src s t W0 w hE hb0 h hg hsk hway hbs hec  h60
    by_cases h62 : t.ch = 62
    · exact scan_c62 F src s t W0 w hE hb0 h hg hsk hway hbs hec  h62
    by_cases h61 : t.ch = 61
    · exact scan_c61 F src s t W0 w hE hb0 h hg hsk hway hbs hec  h61
    by_cases h33 : t.ch = 33
    · exact scan_c33 F src s t W0 w hE hb0 h hg hsk hway hbs hec  h33
    by_cases h38 : t.ch = 38
    · exact scan_c38 F src s t W0 w hE hb0 h hg hsk hway hbs hec  h38
    by_cases h124 : t.ch = 124
    · exact scan_c124 F src s t W0 w hE hb0 h hg hsk hway hbs hec  h124
    by_cases h47 : t.ch = 47
    · by_cases hc2 : (nx src t).ch = 47 ∨ (nx src t).ch = 42
      · refine scan_com F src s t W0 w hE hb0 h hg hsk hway hbs hec h47 hc2 E hp hEb ?_
        intro s' w' hs' hg' hb' hlo _ _ hp'
        have hl := hg'.le
        have := hway.off
        exact ih (src.length - s'.off) (by omega) s' w' (Nat.le_refl _) hb' hs' hg' hp'
      · exact scan_c47 F src s t W0 w hE hb0 h hg hsk hway hbs hec h47 hc2
    · exact scan_ill F src s t W0 w hE hb0 h hg hsk hway hbs hec I hI hL hn (decide_eq_true ⟨hm1, h10, h34, h39, h96, h58, h46, h44, h63, h59, h40, h41, h91, h93, h123, h125, h43, h45, h42, h47, h37, h94, h60, h62, h61, h33, h38, h124⟩)
end Go.Proofs.YtamfekpcoppbgaaFmt
