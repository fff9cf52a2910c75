/-
  FnNewScannerBOMIsSkippedAndShiftsByThree, walked. Conditions: none (beyond 65536 bytes the law says true at once).
-/
import Derived.Test.YtmlbaninhkcpgaaFmtBomB
import Derived.Test.YtmlbaninhkcpgaaFmtTwo
namespace Go.Proofs.YtmlbaninhkcpgaaFmt
open Go.RowKit
set_option maxRecDepth 100000
set_option linter.unusedVariables false

theorem stNew_ec (src : List UInt8) (m : Int) : (stNew src m).ec ≤ 2 := by
  have h0 : (st0 m).ec = 0 := rfl
  have h1 := nx_ec1 src (st0 m)
  have h2 := nx_ec1 src (nx src (st0 m))
  unfold stNew
  split <;> omega
theorem stNew_semi (src : List UInt8) (m : Int) : (stNew src m).semi = false := by
  unfold stNew
  split
  · rw [nx_semi, nx_semi]
    rfl
  · rw [nx_semi]
    rfl
theorem tok_belowW {w W : World} (h : TokCells w) (hb : Below w.heap.size w W) : TokCells W := by
  intro i hi
  have h0 := h i hi
  have hlt := World.block_lt_of_cell? w _ h0
  exact (hb.cell hlt).trans h0
theorem ec_step {e v c K : Nat} (h1 : e ≤ c * K + 2) (h2 : v ≤ e + K) : v ≤ (c + 1) * K + 2 := by
  rw [Nat.succ_mul]
  omega
theorem ec_fits {e c n : Nat} (h1 : e ≤ c * (6 * n + 10) + 2) (hc : c ≤ 2 * n + 3) (hn : n ≤ 65536) : e ≤ 80000000000 := by
  have h := Nat.mul_le_mul (show c ≤ 131075 by omega) (show 6 * n + 10 ≤ 393226 by omega)
  omega
theorem bom_len (A : List UInt8) : (bom A).length = A.length + 3 := by simp [bom]
theorem bc_bom (A : List UInt8) : bc (bom A) = .int .u8 239 :: .int .u8 187 :: .int .u8 191 :: bc A := rfl
def ScP (F G : Fix) (A B : List UInt8) (s t : St) (W0 w : World) (e : Ending) (w' : World) : Prop :=
  ∃ (k : Int) (l : List UInt8) (o : Nat) (v : St), ScanR A s k l o v ∧ e = .returned (.tuple #[.int .i64 k, .string ⟨l.toArray⟩, .int .i64 (1 + (o : Int))]) ∧ Two F G A B v t w' ∧ Below W0.heap.size w w'
set_option maxHeartbeats 8000000 in
theorem bom_law (oA : Option Addr) (cap : Nat) (src : List UInt8) (m : Int) (w : World) (hcap : src.length ≤ cap) (hmax : cap ≤ maxLen) (hsrc : SrcAt w w.heap.size oA src) (hnil : oA = none → src = [] ∧ cap = 0) (hm : -9223372036854775808 ≤ m ∧ m ≤ 9223372036854775807)
    (htab : Lib.Utf8Tabs 3 4 w) (hg : 3 < w.heap.size ∧ 4 < w.heap.size) (hLT : LetterTabs w) (hDT : Lib.RVar 5 Lib.digitT w) (hTk : TokCells w) (I : Go.Stop.Interp) (hI : I.answers w.tape) :
    Calls Tryf.prog 3 #[.slice oA src.length cap, .int .i64 m] w fun e w' => e = .returned (.bool true) ∧ Below w.heap.size w w' := by
  have hlen : src.length ≤ 9223372036854775807 := by simp only [maxLen] at hmax; omega
  have HB := fun W => bytes_bom oA src.length cap m W hlen
  by_cases hbig : src.length ≤ 65536
  rotate_left
  · have t1 : decide ((src.length : Int) > 65536) = true := by simp; omega
    clear hsrc htab hLT hDT hTk hI
    go_enter Tryf.func3, Tryf.ntmps3
    by_cases h2 : src.length ≤ 1048576
    · have e0 : decide (src.length ≤ 1048576) = true := by simpa using h2
      rw [e0] at HB
      clear e0 h2 hbig
      go_wp2_with (go_at_call 4; refine (HB _).mono ?_; rintro e w2 ⟨rfl, rfl⟩)
      go_ret
      exact ⟨rfl, Below.refl _ _⟩
    · have e0 : decide (src.length ≤ 1048576) = false := by simpa using h2
      rw [e0] at HB
      clear e0 h2 hbig
      go_wp2_with (go_at_call 4; refine (HB _).mono ?_; rintro e w2 ⟨rfl, rfl⟩)
      go_ret
      exact ⟨rfl, Below.refl _ _⟩
  have e0 : decide (src.length ≤ 1048576) = true := by simp; omega
  rw [e0] at HB
  clear e0
  have t1 : decide ((src.length : Int) > 65536) = false := by simp; omega
  have HBM := Lib.hid (bomat_any oA cap src w hsrc (by omega))
  have HS0 := Lib.hid hsrc
  have HC := Lib.hid (clone_any oA cap src w hsrc hnil (by omega))
  have HT := Lib.hid htab
  have HLT := Lib.hid hLT
  have HDT := Lib.hid hDT
  have HTK := Lib.hid hTk
  have HII := Lib.hid hI
  clear hsrc htab hnil hLT hDT hTk hI
  rcases hbo : isBom src with _ | _
  rotate_left
  · rw [hbo] at HBM
    clear hbo
    go_enter Tryf.func3, Tryf.ntmps3
    go_wp2_with (first | (go_at_call 4; refine (HB _).mono ?_; rintro e w2 ⟨rfl, rfl⟩) | (go_at_call 5; refine HBM.out.mono ?_; rintro e w2 ⟨rfl, rfl⟩))
    go_ret
    exact ⟨rfl, Below.refl _ _⟩
  have HNB := Lib.hid (isBom_no hbo)
  rw [hbo] at HBM
  clear hbo
  go_enter Tryf.func3, Tryf.ntmps3
  go_wp2_with (first | (go_at_call 4; refine (HB _).mono ?_; rintro e w2 ⟨rfl, rfl⟩) | (go_at_call 5; refine HBM.out.mono ?_; rintro e w2 ⟨rfl, rfl⟩) | (go_at_call 6; refine Hid.out ?_))
  refine Lib.hid ?_
  refine HC.out.mono ?_
  rintro e w1 ⟨oB, cap1, rfl, hcap1, hsrc1, _, hb1⟩
  have hsz1 := hb1.size
  have hmk := cl_make (src.length + 3) (by omega) w1
  simp only [Int.natCast_add, Int.cast_ofNat_Int] at hmk
  have hgm := Blk.new w1 5 (madeCells #[.int .u8 0] (src.length + 3))
  have hbm := (Below.refl w1.heap.size w1).alloc (Nat.le_refl _) (.cells (madeCells #[.int .u8 0] (src.length + 3)) 5)
  have hszm : (w1.alloc (.cells (madeCells #[.int .u8 0] (src.length + 3)) 5)).heap.size = w1.heap.size + 1 := by simp
  obtain ⟨wm, hwm⟩ : ∃ wm, (w1.alloc (.cells (madeCells #[.int .u8 0] (src.length + 3)) 5)) = wm := ⟨_, rfl⟩
  rw [hwm] at hmk hgm hbm hszm
  clear hwm
  have c0 : wm.cell? ⟨w1.heap.size, 0, none⟩ = some (.int .u8 0) := by rw [hgm.cell]; simp [madeCells]
  have c1 : wm.cell? ⟨w1.heap.size, 1, none⟩ = some (.int .u8 0) := by rw [hgm.cell]; simp [madeCells]
  have c2 : wm.cell? ⟨w1.heap.size, 2, none⟩ = some (.int .u8 0) := by rw [hgm.cell]; simp [madeCells]
  have f0 := hgm.free 0
  have f1 := hgm.free 1
  have f2 := hgm.free 2
  have hsl := fun W => sl3 W w1.heap.size src.length
  have hslA := fun W => sl3A W w1.heap.size src.length
  have HB0 : Hid (Below w1.heap.size w1 (((wm.setCell ⟨w1.heap.size, 0, none⟩ (.int .u8 239)).setCell ⟨w1.heap.size, 1, none⟩ (.int .u8 187)).setCell ⟨w1.heap.size, 2, none⟩ (.int .u8 191))) := Lib.hid (((hbm.setCell (p := ⟨w1.heap.size, 0, none⟩) (Nat.le_refl _) _).setCell (p := ⟨w1.heap.size, 1, none⟩) (Nat.le_refl _) _).setCell (p := ⟨w1.heap.size, 2, none⟩) (Nat.le_refl _) _)
  have HBL : Hid ((((wm.setCell ⟨w1.heap.size, 0, none⟩ (.int .u8 239)).setCell ⟨w1.heap.size, 1, none⟩ (.int .u8 187)).setCell ⟨w1.heap.size, 2, none⟩ (.int .u8 191)).heap[w1.heap.size]? = some (.cells ((((madeCells #[.int .u8 0] (src.length + 3)).setIfInBounds 0 (.int .u8 239)).setIfInBounds 1 (.int .u8 187)).setIfInBounds 2 (.int .u8 191)).toList.toArray 5 (0, 0))) := Lib.hid (((hgm.put 0 _).put 1 _).put 2 _)
  have HC1 : Hid ((bc src).length = Nat.min src.length src.length) := Lib.hid (by rw [bc_len]; exact (Nat.min_self _).symm)
  have HC2 : Hid (0 < (bc src).length → dpn w1.heap.size src.length = some ⟨w1.heap.size, 3, none⟩ ∧ ∃ ad, oA = some ad ∧ ∀ j v, (bc src)[j]? = some v → (((wm.setCell ⟨w1.heap.size, 0, none⟩ (.int .u8 239)).setCell ⟨w1.heap.size, 1, none⟩ (.int .u8 187)).setCell ⟨w1.heap.size, 2, none⟩ (.int .u8 191)).cell? (ad.add j) = some v) := Lib.hid (fun h => ⟨dpn_pos (by rw [bc_len] at h; exact h), bc_pos HS0.out (hb1.trans (HB0.out.mono hsz1)) h⟩)
  have HC3 : Hid (3 + (bc src).length ≤ ((((madeCells #[.int .u8 0] (src.length + 3)).setIfInBounds 0 (.int .u8 239)).setIfInBounds 1 (.int .u8 187)).setIfInBounds 2 (.int .u8 191)).toList.length) := Lib.hid (by rw [bc_len]; simp [madeCells]; omega)
  have HSP : Hid (splice ((((madeCells #[.int .u8 0] (src.length + 3)).setIfInBounds 0 (.int .u8 239)).setIfInBounds 1 (.int .u8 187)).setIfInBounds 2 (.int .u8 191)).toList 3 (bc src) = bc (bom src)) := Lib.hid (by rw [put3 _ _ _ _ _ _ (bc_len src)]; rfl)
  have HSR := Lib.hid hsrc1
  have B1 := Lib.hid hb1
  clear hsrc1 hb1 hgm hbm HC HB t1 HBM
  go_wp2_with ((with_reducible refine wpList_copy_splice rfl (.tmp 41) (.tmp 42) 22 22 rfl 5 Tryf.underlying22 (by kernel_rfl) (dpn w1.heap.size src.length) oA src.length src.length src.length cap rfl rfl w1.heap.size 3 ((((madeCells #[.int .u8 0] (src.length + 3)).setIfInBounds 0 (.int .u8 239)).setIfInBounds 1 (.int .u8 187)).setIfInBounds 2 (.int .u8 191)).toList 5 HBL.out (bc src) HC1.out HC2.out HC3.out (bc_one src) w1.heap.size w1 HB0.out (Nat.le_refl _) ?_); intro wc HG2 hBc; refine Hid.out ?_)
  have hszc := hBc.size
  have hbcw : Below w.heap.size w wc := B1.out.trans (hBc.mono hsz1)
  have hsz := hbcw.size
  have hgb : Blk wc w1.heap.size 5 (bc (bom src)).toArray := by
    have := HG2.out
    rw [HSP.out] at this
    exact this
  have HSB := Lib.hid (bc_src hgb (Or.inl (by rw [bom_len]; omega)))
  have HSA : Hid (SrcAt wc wc.heap.size oB src) := Lib.hid ((HSR.out.keep hBc.block).more (by omega))
  have HTC := Lib.hid (tabs_keep HT.out hg.1 hg.2 hbcw.block)
  have hgc : 3 < wc.heap.size ∧ 4 < wc.heap.size := ⟨by omega, by omega⟩
  have HW := Lib.hid hbcw
  have HS := Lib.hid (Blk.new wc 39 #[.int .i64 1, .slice none 0 0, .pointer none])
  clear hgb hBc hbcw HG2 HSP HB0 HBL HC1 HC2 HC3 HSR HS0 B1 HT hmk c0 c1 c2 f0 f1 f2 hsl hslA
  refine Lib.hid ?_
  go_wp2_with (go_at_call 7; go_in)
  refine (addFile_any wc.heap.size _ src.length _ HS.out (by omega)).mono ?_
  rintro e we ⟨gFa, lva, rfl, ha⟩
  have HA : Hid (FileP wc.heap.size gFa lva ⟨#[97]⟩ src.length (wc.alloc (.cells #[.int .i64 1, .slice none 0 0, .pointer none] 39)) we) := Lib.hid ha
  have HS2 := Lib.hid (Blk.new we 39 #[.int .i64 1, .slice none 0 0, .pointer none])
  have HADB := Lib.hid (addFile_any we.heap.size ⟨#[98]⟩ (src.length + 3) _ HS2.out (by omega))
  simp only [Int.natCast_add, Int.cast_ofNat_Int] at HADB
  clear ha HS HS2
  go_wp2_with (go_at_call 7; go_in)
  refine HADB.out.mono ?_
  rintro e wg ⟨gFb, lvb, rfl, hb⟩
  obtain ⟨hfa, hoa, hfb, hob, hne, hlb, hbg, hga, hgb⟩ := files_two src.length (src.length + 3) ⟨#[97]⟩ ⟨#[98]⟩ wc we wg gFa gFb lva lvb HA.out hb
  obtain ⟨kp, hkp, hnx⟩ := new_first hfa hoa hfb hob hne hlb
  have hszg := hbg.size
  have HNA := Lib.hid (newScanner_any kp wc.heap.size gFa oB cap1 _ src lva m wg hm hfa hoa (HSA.out.keep hbg.block) (tabs_keep HTC.out hgc.1 hgc.2 hbg.block) hgc hga (by omega) hcap1 hkp)
  have HNX := Lib.hid hnx
  have HBG := Lib.hid hbg
  clear hfa hoa hfb hob hne hlb hbg hkp hnx hb HA HADB
  go_wp2_with fail
  refine HNA.out.mono ?_
  rintro e w8 ⟨gSa, rfl, hs8, hb8⟩
  obtain ⟨hfb8, hob8, l, hl, hmk2⟩ := HNX.out gSa oB cap1 src (stNew src m) w8 hs8
  have hb8c := HBG.out.trans hb8
  have hNB := newScanner_any l wc.heap.size gFb (some ⟨w1.heap.size, 0, none⟩) (src.length + 3) _ (bom src) lvb m w8 hm (by rw [bom_len]; exact hfb8) hob8 (HSB.out.keep hb8c.block) (tabs_keep HTC.out hgc.1 hgc.2 hb8c.block) hgc hgb (by rw [bom_len]; omega) (by rw [bom_len]; exact Nat.le_refl _) hl
  rw [bom_len] at hNB
  have HNB2 := Lib.hid hNB
  have HM2 := Lib.hid hmk2
  have HB8 := Lib.hid hb8c
  clear hNB hmk2 hb8c hs8 hb8 hfb8 hob8 hl HNA HNX HBG
  go_wp2_with fail
  refine HNB2.out.mono ?_
  rintro e w9 ⟨gSb, rfl, hs9, hb9⟩
  have hTwo := HM2.out (⟨wc.heap.size, gSb, gFb, some ⟨w1.heap.size, 0, none⟩, src.length + 3, ⟨.pointer (some ⟨we.heap.size, 0, none⟩), ⟨#[98]⟩, 1⟩, []⟩ : Fix) (bom src) (stNew (bom src) m) w9 rfl rfl hs9 hb9
  have hb9c := HB8.out.trans hb9
  have hb9w := HW.out.trans (hb9c.mono hsz)
  obtain ⟨F, hF⟩ : ∃ F : Fix, F = (⟨wc.heap.size, gSa, gFa, oB, cap1, ⟨.pointer (some ⟨wc.heap.size, 0, none⟩), ⟨#[97]⟩, 1⟩, []⟩ : Fix) := ⟨_, rfl⟩
  obtain ⟨GG, hG⟩ : ∃ GG : Fix, GG = (⟨wc.heap.size, gSb, gFb, some ⟨w1.heap.size, 0, none⟩, src.length + 3, ⟨.pointer (some ⟨we.heap.size, 0, none⟩), ⟨#[98]⟩, 1⟩, []⟩ : Fix) := ⟨_, rfl⟩
  rw [← hF, ← hG] at hTwo
  have hF1 : gSa = F.gS := by rw [hF]
  have hF2 : F.B = wc.heap.size := by rw [hF]
  have hF3 : F.fx.base = 1 := by rw [hF]
  have hG1 : gSb = GG.gS := by rw [hG]
  have hG2 : GG.B = wc.heap.size := by rw [hG]
  have hG3 : GG.fx.base = 1 := by rw [hG]
  clear hF hG hs9 hb9 HM2 HB8 HNB2
  subst hF1 hG1
  have HE1 : Hid (Env F wc ∧ TokCells wc ∧ I.answers wc.tape ∧ Env GG wc) := Lib.hid (by
    have hW := HW.out
    have hl : LetterTabs wc := ⟨TabIs_below (g := 1) (by kernel_rfl) HLT.out.prop hW, RVar_below HLT.out.letter hW⟩
    exact ⟨⟨hF2, hl, RVar_below HDT.out hW⟩, tok_belowW HTK.out hW, by rw [hW.tape]; exact HII.out, ⟨hG2, hl, RVar_below HDT.out hW⟩⟩)
  have HSCA : Hid (∀ (s t : St) (W : World), Two F GG src (bom src) s t W → Below wc.heap.size wc W → Good src s → s.ec ≤ 80000000000 → Calls Tryf.prog 11 #[.pointer (some ⟨F.gS, 0, none⟩)] W (ScP F GG src (bom src) s t wc W)) := Lib.hid (by
    intro s t W h hb hgd hec
    refine (scan_two F GG src (bom src) wc HE1.out.1 I HE1.out.2.2.1 HE1.out.2.1 (by rw [hF3]; omega) (by rw [hF2, hG2]; exact Nat.le_refl _) s t W h (by rw [hF2]; exact hb) hgd hec).mono ?_
    rintro e w' ⟨k, l, o, v, hr, rfl, hs, hb'⟩
    exact ⟨k, l, o, v, hr, by rw [hF3]; rfl, hs, by rw [← hF2]; exact hb'⟩)
  have HSCB : Hid (∀ (s t : St) (W : World), Two GG F (bom src) src s t W → Below wc.heap.size wc W → Good (bom src) s → s.ec ≤ 80000000000 → Calls Tryf.prog 11 #[.pointer (some ⟨GG.gS, 0, none⟩)] W (ScP GG F (bom src) src s t wc W)) := Lib.hid (by
    intro s t W h hb hgd hec
    refine (scan_two GG F (bom src) src wc HE1.out.2.2.2 I HE1.out.2.2.1 HE1.out.2.1 (by rw [hG3]; omega) (by rw [hF2, hG2]; exact Nat.le_refl _) s t W h (by rw [hG2]; exact hb) hgd hec).mono ?_
    rintro e w' ⟨k, l, o, v, hr, rfl, hs, hb'⟩
    exact ⟨k, l, o, v, hr, by rw [hG3]; rfl, hs, by rw [← hG2]; exact hb'⟩)
  have hsim := stNew_bom src m HNB.out
  have HSH := Lib.hid (shf_bom src HNB.out)
  have HSM := Lib.hid hsim
  have HT9 := Lib.hid hTwo
  have HB9 := Lib.hid hb9c
  have HW9 := Lib.hid hb9w
  have HEA := Lib.hid (ecount_any F src (stNew src m) w9 hTwo.f)
  have hEB := ecount_any GG (bom src) (stNew (bom src) m) w9 hTwo.g
  rw [hsim.ec] at hEB
  have HEB := Lib.hid hEB
  obtain ⟨e0, he0⟩ : ∃ e0, (stNew src m).ec = e0 := ⟨_, rfl⟩
  have he2 : e0 ≤ 2 := by rw [← he0]; exact stNew_ec src m
  have HE0 := Lib.hid he0
  rw [he0] at HEA HEB
  clear hsim hTwo hb9c hb9w hEB he0 HSB HSA HTC HLT HDT HTK HII HE1 hF2 hF3 hG2 hG3
  have tn : ((e0 : Int) != (e0 : Int)) = false := by simp
  go_wp2_with (first | (go_at_call 10; refine HEA.out.mono ?_; rintro e w' ⟨rfl, rfl⟩) | (go_at_call 10; refine HEB.out.mono ?_; rintro e w' ⟨rfl, rfl⟩))
  clear tn HEA HEB
  go_loopw [12] (fun v12 wr => ∃ (c : Nat) (s t : St), v12 = .int .i64 (c : Int) ∧ Good src s ∧ mu src.length s + c ≤ 2 * src.length ∧ s.ec ≤ c * (6 * src.length + 10) + 2 ∧ Sim 3 s t ∧ Two F GG src (bom src) s t wr ∧ Below wc.heap.size wc wr ∧ Below w.heap.size w wr) (fun v12 _ => 2 * src.length + 1 - (intOf v12).toNat)
  case atStart =>
    exact ⟨0, _, _, by first | rfl | simp, stNew_good src m, by unfold mu; rw [stNew_semi]; simp; omega, by rw [HE0.out]; omega, HSM.out, HT9.out, HB9.out, HW9.out⟩
  case round =>
    obtain ⟨c, s, t, rfl, hgd, hmu, hec, hsm, htw, hbw, hb⟩ := hrel
    have hecs := ec_fits hec (by omega) hbig
    have HSC1 := Lib.hid (HSCA.out s t wr htw hbw hgd hecs)
    have tl : decide ((c : Int) < 2 * (src.length : Int) + 8) = true := decide_eq_true (by omega)
    have HBW := Lib.hid hbw
    have HBB := Lib.hid hb
    have HGD := Lib.hid hgd
    have HSI := Lib.hid hsm
    have HEC := Lib.hid hec
    have HES := Lib.hid hecs
    clear hbw hb hecs hec hgd hsm htw HT9 HB9 HW9 HSM HE0
    go_wp2_with (go_at_call 11; refine Hid.out ?_)
    refine Lib.hid ?_
    refine HSC1.out.mono ?_
    rintro e w4 ⟨k, l, o, v, hr, rfl, ht4, hb4⟩
    have HSC2 := Lib.hid (HSCB.out t v w4 ht4.symm (HBW.out.trans hb4) (Sim.good HSH.out HSI.out HGD.out) (by rw [HSI.out.ec]; exact HES.out))
    have HR := Lib.hid hr
    have HB4 := Lib.hid (HBW.out.trans hb4)
    have HB4w := Lib.hid (HBB.out.trans (hb4.mono hsz))
    clear hr ht4 hb4 HSC1 HBW HBB
    go_wp2_with (go_at_call 11; refine Hid.out ?_)
    refine Lib.hid ?_
    refine HSC2.out.mono ?_
    rintro e w5 ⟨k', l', o', v', hr', rfl, ht5, hb5⟩
    obtain ⟨rfl, rfl, rfl, hsv⟩ := ScanR.sim HSH.out HR.out HGD.out HSI.out hr'
    have hf := HR.out.f HGD.out
    have hle := hf.le
    have hen := HR.out.ecn HGD.out
    have HEV := Lib.hid (ec_step HEC.out (Nat.le_trans hen (by omega)))
    have HF := Lib.hid hf
    have HEA := Lib.hid (ecount_any F src v w5 ht5.g)
    have hEB := ecount_any GG (bom src) v' w5 ht5.f
    rw [hsv.ec] at hEB
    have HEB := Lib.hid hEB
    have HT5 := Lib.hid ht5.symm
    have HSV := Lib.hid hsv
    have HB5 := Lib.hid (HB4.out.trans hb5)
    have HB5w := Lib.hid (HB4w.out.trans (hb5.mono hsz))
    rw [show (1 : Int) + ((o + 3 : Nat) : Int) = 1 + (o : Int) + 3 by omega]
    have t1 : (k != k) = false := by simp
    have t2 : ((v.ec : Int) != (v.ec : Int)) = false := by simp
    have t3 : ((1 + (o : Int) + 3) != (1 + (o : Int) + 3)) = false := by simp
    clear hr' ht5 hb5 hf hen hEB hsv HSC2 HR HB4 HB4w HEC HES HSI HGD
    by_cases hk : k = 1
    · have tk : (k == 1) = true := by simpa using hk
      clear hk hmu
      go_wp2_with (first | (go_at_call 10; refine HEA.out.mono ?_; rintro e w' ⟨rfl, rfl⟩) | (go_at_call 10; refine HEB.out.mono ?_; rintro e w' ⟨rfl, rfl⟩))
      go_ret
      exact ⟨by first | rfl | simp, HB5w.out⟩
    · have tk : (k == 1) = false := by simpa using hk
      have hfar := HF.out.far hk
      have HG5 := Lib.hid HF.out.good
      clear hk HF
      go_wp2_with (first | (go_at_call 10; refine HEA.out.mono ?_; rintro e w' ⟨rfl, rfl⟩) | (go_at_call 10; refine HEB.out.mono ?_; rintro e w' ⟨rfl, rfl⟩))
      go_roundw
      case rel => exact ⟨c + 1, v, v', by go_num, HG5.out, by omega, HEV.out, HSV.out, HT5.out, HB5.out, HB5w.out⟩
      case measure => simp [intOf]; omega
end Go.Proofs.YtmlbaninhkcpgaaFmt
