/-
  FnScanTerminatesWithMonotonePositionsAndSourceLiterals, walked. Conditions: none (beyond 65536 bytes the law says true at once).
-/
import Derived.Test.YtamfekpcoppbgaaFmtLit96
namespace Go.Proofs.YtamfekpcoppbgaaFmt
open Go.RowKit
set_option maxRecDepth 100000
set_option linter.unusedVariables false

/-- one call of Scan, the base being 1 -/
def StepPost (F : Fix) (src : List UInt8) (s : St) (w : World) (e : Ending) (w' : World) : Prop :=
  ∃ (k : Int) (l : List UInt8) (o : Nat) (v : St), ScanR src s k l o v ∧ e = .returned (.tuple #[.int .i64 k, .string ⟨l.toArray⟩, .int .i64 (1 + (o : Int))]) ∧ SC F src v w' ∧ Below F.B w w'
theorem tok_belowW {w W : World} (h : TokCells w) (hb : Below w.heap.size w W) : TokCells W := by
  intro i hi
  have h0 := h i hi
  have hlt := World.block_lt_of_cell? w _ h0
  exact (hb.cell hlt).trans h0
theorem ec_step {e v c K : Nat} (h1 : e ≤ c * K + 2) (h2 : v ≤ e + K) : v ≤ (c + 1) * K + 2 := by
  rw [Nat.succ_mul]
  omega
theorem ec_fits {e c n : Nat} (h1 : e ≤ c * (6 * n + 10) + 2) (hc : c ≤ 2 * n + 3) (hn : n ≤ 65536) : e ≤ 80000000000 := by
  have h := Nat.mul_le_mul (show c ≤ 131075 by omega) (show 6 * n + 10 ≤ 393226 by omega)
  omega

set_option maxHeartbeats 400000 in
theorem bytes_term (oA : Option Addr) (n cap : Nat) (w : World) (hn : n ≤ 9223372036854775807) :
    Calls Tryf.prog 8 #[.slice oA n cap] w fun e w' => e = .returned (.bool (decide (n ≤ 1048576))) ∧ w = w' := by
  by_cases h : n ≤ 1048576
  · have t0 : decide ((n : Int) > 1048576) = false := by simp; omega
    have e0 : decide (n ≤ 1048576) = true := by simpa using h
    rw [e0]
    go_enter Tryf.func8, Tryf.ntmps8
    go_wp2
    go_ret
    exact ⟨rfl, rfl⟩
  · have t0 : decide ((n : Int) > 1048576) = true := by simp; omega
    have e0 : decide (n ≤ 1048576) = false := by simpa using h
    rw [e0]
    go_enter Tryf.func8, Tryf.ntmps8
    go_wp2
    go_ret
    exact ⟨rfl, rfl⟩

set_option maxHeartbeats 8000000 in
theorem term_law (oA : Option Addr) (cap : Nat) (src : List UInt8) (w : World) (hcap : src.length ≤ cap) (hmax : cap ≤ maxLen) (hsrc : SrcAt w w.heap.size oA src) (hnil : oA = none → src = [] ∧ cap = 0)
    (htab : Lib.Utf8Tabs 4 5 w) (hg : 4 < w.heap.size ∧ 5 < w.heap.size) (hLT : LetterTabs w) (hDT : Lib.RVar 3 Lib.digitT w) (hTk : TokCells w) (I : Go.Stop.Interp) (hI : I.answers w.tape) :
    Calls Tryf.prog 3 #[.slice oA src.length cap] w fun e w' => e = .returned (.bool true) ∧ Below w.heap.size w w' := by
  have hlen : src.length ≤ 9223372036854775807 := by simp only [maxLen] at hmax; omega
  have HB := fun W => bytes_term oA src.length cap W hlen
  by_cases hbig : src.length ≤ 65536
  rotate_left
  · have t1 : decide ((src.length : Int) > 65536) = true := by simp; omega
    clear hsrc htab hLT hDT hTk hI
    go_enter Tryf.func3, Tryf.ntmps3
    by_cases h2 : src.length ≤ 1048576
    · have e0 : decide (src.length ≤ 1048576) = true := by simpa using h2
      rw [e0] at HB
      clear e0 h2 hbig
      go_wp2_with (go_at_call 8; refine (HB _).mono ?_; rintro e w2 ⟨rfl, rfl⟩)
      go_ret
      exact ⟨rfl, Below.refl _ _⟩
    · have e0 : decide (src.length ≤ 1048576) = false := by simpa using h2
      rw [e0] at HB
      clear e0 h2 hbig
      go_wp2_with (go_at_call 8; refine (HB _).mono ?_; rintro e w2 ⟨rfl, rfl⟩)
      go_ret
      exact ⟨rfl, Below.refl _ _⟩
  have e0 : decide (src.length ≤ 1048576) = true := by simp; omega
  rw [e0] at HB
  clear e0
  have t1 : decide ((src.length : Int) > 65536) = false := by simp; omega
  have HC := Lib.hid (clone_any oA cap src w hsrc hnil (by omega))
  have HT := Lib.hid htab
  have HLT := Lib.hid hLT
  have HDT := Lib.hid hDT
  have HTK := Lib.hid hTk
  have HII := Lib.hid hI
  clear hsrc htab hnil hLT hDT hTk hI
  go_enter Tryf.func3, Tryf.ntmps3
  go_wp2_with (go_at_call 8; refine (HB _).mono ?_; rintro e w2 ⟨rfl, rfl⟩)
  refine HC.out.mono ?_
  rintro e w1 ⟨oB, cap1, rfl, hcap1, hsrc1, _, hb1⟩
  have hsz1 := hb1.size
  have htab1 := tabs_keep HT.out hg.1 hg.2 hb1.block
  have HM := Lib.hid (mkS_any oB cap1 src w1 hsrc1 htab1 (by omega) (by omega) hcap1)
  have B1 := Lib.hid hb1
  clear hsrc1 htab1 hb1 HC HT HB t1
  go_wp2_with fail
  refine HM.out.mono ?_
  rintro e w2 ⟨F, W0, rfl, hFB, hFo, hFc, hbase, hw0, hsz0, hbw, hs2, hb2⟩
  subst hFo hFc
  have hB2 : Below w.heap.size w w2 := B1.out.trans (hb2.mono hsz1)
  have hW0 : Below w.heap.size w W0 := B1.out.trans (hw0.mono hsz1)
  have hFB0 : w.heap.size ≤ F.B := by omega
  have HSCAN : Hid (∀ (s : St) (W : World), SC F src s W → Below F.B W0 W → Good src s → s.ec ≤ 80000000000 → Calls Tryf.prog 11 #[.pointer (some ⟨F.gS, 0, none⟩)] W (StepPost F src s W)) := Lib.hid (by
    intro s W h hb hgd hec
    have hE : Env F W0 := ⟨hsz0, ⟨TabIs_below (g := 1) (by kernel_rfl) HLT.out.prop hW0, RVar_below HLT.out.letter hW0⟩, RVar_below HDT.out hW0⟩
    have hK : TokCells W0 := tok_belowW HTK.out hW0
    have hI0 : I.answers W0.tape := by rw [hW0.tape]; exact HII.out
    have hp := pot_le (src := src) s
    refine (scan_any F src W0 hE I hI0 hK (by rw [hbase]; omega) (s.ec + 3 * src.length + 2) (by omega) _ s W (Nat.le_refl _) hb h hgd hp).mono ?_
    rintro e w' ⟨k, l, o, v, hr, rfl, hs, hb'⟩
    exact ⟨k, l, o, v, hr, by rw [hbase]; rfl, hs, hb'⟩)
  have H2 := Lib.hid hs2
  have B2 := Lib.hid hB2
  have BW2 := Lib.hid hbw
  clear hs2 hb2 hB2 HM B1 hFB hw0 hsz0 hbw hW0 HLT HDT HTK HII
  obtain ⟨lv, hfl, _⟩ := H2.out.file
  have cb : w2.cell? ⟨F.gF, 2, none⟩ = some (.int .i64 1) := by rw [hfl.cell]; show some (Value.int .i64 (F.fx.base : Int)) = _; rw [hbase]; rfl
  have HN : Hid (1 + (src.length : Int) = 1 + (src.length : Int)) := Lib.hid rfl
  clear hfl hbase
  go_wp2_with fail
  clear cb
  go_loopw [7, 8, 9] (fun v7 v8 v9 wr => ∃ (c la : Nat) (s : St), v7 = .int .i64 (1 + (la : Int)) ∧ v8 = .bool false ∧ v9 = .int .i64 (c : Int) ∧ la ≤ s.off ∧ Good src s ∧ mu src.length s + c ≤ 2 * src.length ∧ s.ec ≤ c * (6 * src.length + 10) + 2 ∧ SC F src s wr ∧ Below F.B W0 wr ∧ Below w.heap.size w wr) (fun _ _ v9 _ => 2 * src.length + 1 - (intOf v9).toNat)
  case atStart =>
    exact ⟨0, 0, _, by first | rfl | simp, rfl, rfl, Nat.zero_le _, stNew_good src 0, by unfold mu; rw [stNew_semi]; simp; omega, by have := stNew_ec src 0; omega, H2.out, BW2.out, B2.out⟩
  case round =>
    obtain ⟨c, la, s, rfl, rfl, rfl, hla, hgd, hmu, hec, hs, hbw, hb⟩ := hrel
    have hecs := ec_fits hec (by omega) hbig
    have HSC := Lib.hid (HSCAN.out s wr hs hbw hgd hecs)
    have tl : decide ((c : Int) < 2 * (src.length : Int) + 4) = true := decide_eq_true (by omega)
    have HBW := Lib.hid hbw
    have HBB := Lib.hid hb
    have HGD := Lib.hid hgd
    have HEC := Lib.hid hec
    clear hs hbw hb H2 B2 BW2 hecs hec hgd
    go_wp2_with (go_at_call 11; refine Hid.out ?_)
    refine Lib.hid ?_
    refine HSC.out.mono ?_
    rintro e w4 ⟨k, l, o, v, hr, rfl, hs4, hb4⟩
    have hf := hr.f HGD.out
    have hen := hr.ecn HGD.out
    have HEV := Lib.hid (ec_step HEC.out (Nat.le_trans hen (by omega)))
    have hlo := hf.lo
    have hle := hf.le
    have t1 : decide (1 + (o : Int) < 1 + (la : Int)) = false := decide_eq_false (by omega)
    have t2 : decide (1 + (o : Int) > 1 + (src.length : Int)) = false := decide_eq_false (by omega)
    have n1 : ¬ o < la := by omega
    have n2 : ¬ src.length < o := by omega
    have HF := Lib.hid hf
    have S4 := Lib.hid hs4
    have BW4 := Lib.hid (HBW.out.trans hb4)
    have B4 := Lib.hid (HBB.out.trans (hb4.mono hFB0))
    clear hr hs4 hb4 hf hen HSC HBW HBB HGD HEC
    by_cases hk : k = 1
    · obtain ⟨hl, ho, hch, hse⟩ := HF.out.eof hk
      have tk : (k == 1) = true := by simpa using hk
      have tn : (1 + (o : Int) != 1 + (src.length : Int)) = false := by simp; omega
      have HG4 := Lib.hid HF.out.good
      have HCH := Lib.hid hch
      have HSE := Lib.hid hse
      have hcb : c + 1 ≤ 2 * src.length + 1 := by omega
      clear hl ho hch hse hk HF hmu tl
      go_wp2_with fail
      clear tk tn t1 t2
      go_loopw [16] (fun v16 wr => ∃ (j : Nat) (s : St), v16 = .int .i64 (j : Int) ∧ j ≤ 2 ∧ s.ch = -1 ∧ s.semi = false ∧ Good src s ∧ s.ec ≤ (c + 1 + j) * (6 * src.length + 10) + 2 ∧ SC F src s wr ∧ Below F.B W0 wr ∧ Below w.heap.size w wr) (fun v16 _ => 2 - (intOf v16).toNat)
      case atStart => exact ⟨0, v, rfl, Nat.zero_le _, HCH.out, HSE.out, HG4.out, HEV.out, S4.out, BW4.out, B4.out⟩
      case round =>
        obtain ⟨j, s2, rfl, hj, hch2, hse2, hg2, hec2, hs2, hbw2, hb2⟩ := hrel
        have hf2 := ec_fits hec2 (by omega) hbig
        have HS2 := Lib.hid (HSCAN.out s2 wr hs2 hbw2 hg2 hf2)
        have HBW2 := Lib.hid hbw2
        have HB2 := Lib.hid hb2
        have HC2 := Lib.hid hch2
        have HE2 := Lib.hid hse2
        have HGG := Lib.hid hg2
        have HEE := Lib.hid hec2
        clear hs2 hbw2 hb2 hch2 hse2 hg2 hec2 hf2 HEV S4 BW4 B4 HG4 HCH HSE
        by_cases hj2 : j < 2
        · have t3 : decide ((j : Int) < 2) = true := decide_eq_true (by omega)
          go_wp2_with (go_at_call 11; refine Hid.out ?_)
          refine Lib.hid ?_
          refine HS2.out.mono ?_
          rintro e w5 ⟨k5, l5, o5, v5, hr5, rfl, hs5, hb5⟩
          obtain ⟨rfl, rfl, ho5, hch5, hse5⟩ := hr5.again HGG.out HC2.out HE2.out
          have t4 : (1 + (o5 : Int) != 1 + (src.length : Int)) = false := by simp; omega
          have HEV := Lib.hid (ec_step HEE.out (Nat.le_trans (hr5.ecn HGG.out) (by omega)))
          have HG5 := Lib.hid (hr5.f HGG.out).good
          have S5 := Lib.hid hs5
          have BW5 := Lib.hid (HBW2.out.trans hb5)
          have B5 := Lib.hid (HB2.out.trans (hb5.mono hFB0))
          have HC5 := Lib.hid hch5
          have HE5 := Lib.hid hse5
          clear hr5 hs5 hb5 ho5 hch5 hse5 HS2
          go_wp2_with fail
          go_roundw
          case rel => exact ⟨j + 1, v5, by go_num, hj2, HC5.out, HE5.out, HG5.out, HEV.out, S5.out, BW5.out, B5.out⟩
          case measure => simp [intOf]; omega
        · have t3 : decide ((j : Int) < 2) = false := decide_eq_false (by omega)
          go_wp2_with fail
          go_ret
          exact ⟨rfl, HB2.out⟩
    · have tk : (k == 1) = false := by simpa using hk
      have hfar := HF.out.far hk
      have hhi := HF.out.hi
      have HLI := Lib.hid (zzlit_any k l w4)
      have HLO := Lib.hid HF.out.lit
      have HG4 := Lib.hid HF.out.good
      clear hk HF
      rcases hq : isLit k l with _ | _
      · rw [hq] at HLI
        clear hq
        go_wp2_with (go_at_call 12; refine Hid.out ?_)
        refine Lib.hid ?_
        refine HLI.out.mono ?_
        rintro e w' ⟨rfl, rfl⟩
        go_wp2_with fail
        go_roundw
        case rel => exact ⟨c + 1, o, v, rfl, rfl, by go_num, hhi, HG4.out, by omega, HEV.out, S4.out, BW4.out, B4.out⟩
        case measure => simp [intOf]; omega
      · rw [hq] at HLI
        obtain ⟨hol, hlc⟩ := isLit_ok HLO.out hq
        have HLC := Lib.hid hlc
        clear hq hlc
        have t5 : decide (1 + (o : Int) - 1 + (l.length : Int) > (src.length : Int)) = false := decide_eq_false (by omega)
        go_wp2_with (go_at_call 12; refine Hid.out ?_)
        refine Lib.hid ?_
        refine HLI.out.mono ?_
        rintro e w' ⟨rfl, rfl⟩
        have hsz : ((⟨l.toArray⟩ : ByteArray).size : Int) = (l.length : Int) := by simp [ByteArray.size]
        go_wp2_with fail
        clear t1 t2 tk t5 n1 n2
        go_loopw [15] (fun v15 wr => ∃ j : Nat, v15 = .int .i64 (j : Int) ∧ j ≤ l.length ∧ SC F src v wr ∧ Below F.B W0 wr ∧ Below w.heap.size w wr) (fun v15 _ => l.length - (intOf v15).toNat)
        case atStart => exact ⟨0, rfl, Nat.zero_le _, S4.out, BW4.out, B4.out⟩
        case round =>
          obtain ⟨j, rfl, hj, hsr, hbwr, hbr⟩ := hrel
          clear S4 BW4 B4
          have S4 := Lib.hid hsr
          have BW4 := Lib.hid hbwr
          have B4 := Lib.hid hbr
          clear hsr hbwr hbr
          by_cases hjl : j < l.length
          · have tj : decide ((j : Int) < (l.length : Int)) = true := decide_eq_true (by omega)
            obtain ⟨b, oo, eo, hbB, hcc⟩ := S4.out.srcAt.at_ (by omega)
            have hoj : o + j < src.length := by omega
            obtain ⟨z, hz⟩ : ∃ z, src[o + j] = z := ⟨_, rfl⟩
            have hc1 : wr.cell? ⟨b, oo + (o + j), none⟩ = some (.int .u8 (z.toNat : Int)) := by rw [hcc (o + j) hoj, hz]
            have hlj : l[j]? = some z := by
              rw [HLC.out]
              unfold cut
              rw [List.getElem?_take_of_lt (by omega), List.getElem?_drop, List.getElem?_eq_getElem hoj, hz]
            have hix := fun W => idx_str l j z hlj W
            have ix : (1 + (o : Int) - 1 + (j : Int)).toNat = o + j := by omega
            have tn : ((z.toNat : Int) != (z.toNat : Int)) = false := by simp
            rw [eo]
            have EO := Lib.hid eo
            clear hcc hz hlj eo
            go_wp2_with fail
            go_quiet (fail)
            go_wp2_with fail
            go_roundw
            case rel => exact ⟨j + 1, by go_num, by omega, S4.out.drewN _, below_drewN0 BW4.out _, below_drewN0 B4.out _⟩
            case measure => simp [intOf]; omega
          · obtain rfl : j = l.length := by omega
            have tj : decide ((l.length : Int) < (l.length : Int)) = false := by simp
            go_wp2_with fail
            go_roundw
            case rel => exact ⟨c + 1, o, v, rfl, rfl, by go_num, hhi, HG4.out, by omega, HEV.out, S4.out, BW4.out, B4.out⟩
            case measure => simp [intOf]; omega
end Go.Proofs.YtamfekpcoppbgaaFmt
