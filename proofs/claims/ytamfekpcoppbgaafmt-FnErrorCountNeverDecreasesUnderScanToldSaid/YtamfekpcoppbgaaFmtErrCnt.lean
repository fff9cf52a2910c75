/-
  FnErrorCountNeverDecreasesUnderScan, walked. Conditions: none (beyond 65536 bytes the law says true at once).
-/
import Derived.Test.YtamfekpcoppbgaaFmtErrC
import Derived.Test.YtamfekpcoppbgaaFmtEcn
import Derived.Test.YtamfekpcoppbgaaFmtTerm96
namespace Go.Proofs.YtamfekpcoppbgaaFmt
open Go.RowKit
set_option maxRecDepth 100000
set_option linter.unusedVariables false

theorem badN_le : ∀ l : List Chr, badN l ≤ l.length
  | [] => Nat.le_refl _
  | c :: l => by
    have := badN_le l
    show (if c.2.2 then 1 else 0) + badN l ≤ l.length + 1
    split <;> omega
theorem badN_take (l : List Chr) (k : Nat) (h : k < l.length) : badN (l.take (k + 1)) = badN (l.take k) + (if (l.getD k (0, 0, false)).2.2 = true then 1 else 0) := by
  have e : l.take (k + 1) = l.take k ++ [l.getD k (0, 0, false)] := by
    rw [List.take_add_one, List.getElem?_eq_getElem h]
    simp [List.getD, h]
  rw [e, badN_app]

set_option maxHeartbeats 400000 in
theorem bytes_err (oA : Option Addr) (n cap : Nat) (w : World) (hn : n ≤ 9223372036854775807) :
    Calls Tryf.prog 25 #[.slice oA n cap] w fun e w' => e = .returned (.bool (decide (n ≤ 1048576))) ∧ w = w' := by
  by_cases h : n ≤ 1048576
  · have t0 : decide ((n : Int) > 1048576) = false := by simp; omega
    have e0 : decide (n ≤ 1048576) = true := by simpa using h
    rw [e0]
    go_enter Tryf.func25, Tryf.ntmps25
    go_wp2
    go_ret
    exact ⟨rfl, rfl⟩
  · have t0 : decide ((n : Int) > 1048576) = true := by simp; omega
    have e0 : decide (n ≤ 1048576) = false := by simpa using h
    rw [e0]
    go_enter Tryf.func25, Tryf.ntmps25
    go_wp2
    go_ret
    exact ⟨rfl, rfl⟩

set_option maxHeartbeats 8000000 in
theorem err_law (oA : Option Addr) (cap : Nat) (src : List UInt8) (w : World) (hcap : src.length ≤ cap) (hmax : cap ≤ maxLen) (hsrc : SrcAt w w.heap.size oA src) (hnil : oA = none → src = [] ∧ cap = 0)
    (htab : Lib.Utf8Tabs 4 5 w) (hg : 4 < w.heap.size ∧ 5 < w.heap.size) (hLT : LetterTabs w) (hDT : Lib.RVar 3 Lib.digitT w) (hTk : TokCells w) (I : Go.Stop.Interp) (hI : I.answers w.tape) :
    Calls Tryf.prog 7 #[.slice oA src.length cap] w fun e w' => e = .returned (.bool true) ∧ Below w.heap.size w w' := by
  have hlen : src.length ≤ 9223372036854775807 := by simp only [maxLen] at hmax; omega
  have HB := fun W => bytes_err oA src.length cap W hlen
  by_cases hbig : src.length ≤ 65536
  rotate_left
  · have t1 : decide ((src.length : Int) > 65536) = true := by simp; omega
    clear hsrc htab hLT hDT hTk hI
    go_enter Tryf.func7, Tryf.ntmps7
    by_cases h2 : src.length ≤ 1048576
    · have e0 : decide (src.length ≤ 1048576) = true := by simpa using h2
      rw [e0] at HB
      clear e0 h2 hbig
      go_wp2_with (go_at_call 25; refine (HB _).mono ?_; rintro e w2 ⟨rfl, rfl⟩)
      go_ret
      exact ⟨rfl, Below.refl _ _⟩
    · have e0 : decide (src.length ≤ 1048576) = false := by simpa using h2
      rw [e0] at HB
      clear e0 h2 hbig
      go_wp2_with (go_at_call 25; refine (HB _).mono ?_; rintro e w2 ⟨rfl, rfl⟩)
      go_ret
      exact ⟨rfl, Below.refl _ _⟩
  have e0 : decide (src.length ≤ 1048576) = true := by simp; omega
  rw [e0] at HB
  clear e0
  have t1 : decide ((src.length : Int) > 65536) = false := by simp; omega
  have HC := Lib.hid (clone_any oA cap src w hsrc hnil (by omega))
  have HT := Lib.hid htab
  have HLT := Lib.hid hLT
  have HDT := Lib.hid hDT
  have HTK := Lib.hid hTk
  have HII := Lib.hid hI
  clear hsrc htab hnil hLT hDT hTk hI
  go_enter Tryf.func7, Tryf.ntmps7
  go_wp2_with (go_at_call 25; refine (HB _).mono ?_; rintro e w2 ⟨rfl, rfl⟩)
  refine HC.out.mono ?_
  rintro e wc ⟨oB, cap1, rfl, hcap1, hsrcc, _, hbc⟩
  have hszc := hbc.size
  have htabc := tabs_keep HT.out hg.1 hg.2 hbc.block
  have HM0 := Lib.hid (chars_any oB cap1 src wc hsrcc hbig)
  have HSR := Lib.hid hsrcc
  have HTB := Lib.hid htabc
  have BC := Lib.hid hbc
  clear hsrcc htabc hbc HC HT t1 HB
  go_wp2_with fail
  refine HM0.out.mono ?_
  rintro e w1 ⟨g, cp, l, rfl, hglo, hgw, hll, hbad, hcells, hb1c⟩
  have hsz1c := hb1c.size
  have hsrc1 : SrcAt w1 w1.heap.size oB src := (HSR.out.keep hb1c.block).more (by omega)
  have htab1 := tabs_keep HTB.out (Nat.lt_of_lt_of_le hg.1 hszc) (Nat.lt_of_lt_of_le hg.2 hszc) hb1c.block
  have hb1 : Below w.heap.size w w1 := BC.out.trans (hb1c.mono hszc)
  have hsz1 := hb1.size
  have HM := Lib.hid (mkS_any oB cap1 src w1 hsrc1 htab1 (by omega) (by omega) hcap1)
  have B1 := Lib.hid hb1
  have HCL := Lib.hid hcells
  have HBA := Lib.hid hbad
  clear hsrc1 htab1 hb1 hb1c hcells hbad HM0 HSR HTB BC
  go_wp2_with fail
  go_loopw [5, 6] (fun v5 v6 wr => ∃ k : Nat, v5 = .int .i64 (badN (l.take k) : Int) ∧ v6 = .int .i64 (k : Int) ∧ k ≤ l.length ∧ w1 = wr) (fun _ v6 _ => l.length - (intOf v6).toNat)
  case atStart => exact ⟨0, by simp [badN], rfl, Nat.zero_le _, rfl⟩
  case round =>
    obtain ⟨k, rfl, rfl, hk, rfl⟩ := hrel
    by_cases hkl : k < l.length
    · have tl : decide ((k : Int) < (l.length : Int)) = true := decide_eq_true (by omega)
      have hc := HCL.out k hkl
      have hc2 : w1.cell? ⟨g, k * 3 + 2, none⟩ = some (.bool (l.getD k (0, 0, false)).2.2) := by rw [Nat.mul_comm]; exact hc
      have hbt := badN_take l k hkl
      have hbl := badN_le (l.take k)
      have hbl2 : (l.take k).length ≤ 65536 := by rw [List.length_take]; omega
      rcases hb2 : (l.getD k (0, 0, false)).2.2 with _ | _
      · rw [hb2] at hc hc2 hbt
        have HBT := Lib.hid hbt
        clear hb2 hbt
        go_wp2_with fail
        go_roundw
        case rel => exact ⟨k + 1, by rw [HBT.out]; simp, by go_num, by omega, by first | rfl | trivial⟩
        case measure => simp [intOf]; omega
      · rw [hb2] at hc hc2 hbt
        have HBT := Lib.hid hbt
        clear hb2 hbt
        go_wp2_with fail
        go_roundw
        case rel => exact ⟨k + 1, by rw [HBT.out]; simp, by go_num, by omega, by first | rfl | trivial⟩
        case measure => simp [intOf]; omega
    · obtain rfl : k = l.length := by omega
      have tl : decide ((l.length : Int) < (l.length : Int)) = false := by simp
      obtain ⟨R, hR⟩ : ∃ R, badN (l.take l.length) = R := ⟨_, rfl⟩
      have HR : Hid (rem src 0 = R) := Lib.hid (by rw [← hR, List.take_length]; exact HBA.out.symm)
      rw [hR]
      clear hR HCL HBA
      go_wp2_with fail
      clear tl
      refine HM.out.mono ?_
      rintro e w2 ⟨F, W0, rfl, hFB, hFo, hFc, hbase, hw0, hsz0, hbw, hs2, hb2⟩
      subst hFo hFc
      have hB2 : Below w.heap.size w w2 := B1.out.trans (hb2.mono hsz1)
      have hW0 : Below w.heap.size w W0 := B1.out.trans (hw0.mono hsz1)
      have hFB0 : w.heap.size ≤ F.B := by omega
      have HSCAN : Hid (∀ (s : St) (W : World), SC F src s W → Below F.B W0 W → Good src s → s.ec ≤ 80000000000 → Calls Tryf.prog 11 #[.pointer (some ⟨F.gS, 0, none⟩)] W (StepPost F src s W)) := Lib.hid (by
        intro s W h hb hgd hec
        have hE : Env F W0 := ⟨hsz0, ⟨TabIs_below (g := 1) (by kernel_rfl) HLT.out.prop hW0, RVar_below HLT.out.letter hW0⟩, RVar_below HDT.out hW0⟩
        have hK : TokCells W0 := tok_belowW HTK.out hW0
        have hI0 : I.answers W0.tape := by rw [hW0.tape]; exact HII.out
        have hp := pot_le (src := src) s
        refine (scan_any F src W0 hE I hI0 hK (by rw [hbase]; omega) (s.ec + 3 * src.length + 2) (by omega) _ s W (Nat.le_refl _) hb h hgd hp).mono ?_
        rintro e w' ⟨k, l, o, v, hr, rfl, hs, hb'⟩
        exact ⟨k, l, o, v, hr, by rw [hbase]; rfl, hs, hb'⟩)
      have H2 := Lib.hid hs2
      have B2 := Lib.hid hB2
      have BW2 := Lib.hid hbw
      have HE0 := Lib.hid (ecount_any F src (stNew src 0) w2 hs2)
      have tn : decide (((stNew src 0).ec : Int) < 0) = false := decide_eq_false (by omega)
      clear hs2 hb2 hB2 HM hw0 hsz0 hbw hW0 HLT HDT HTK HII hbase
      go_wp2_with (go_at_call 17; refine HE0.out.mono ?_; rintro e w' ⟨rfl, rfl⟩)
      clear HE0 tn
      go_loopw [9, 10, 11] (fun v9 v10 v11 wr => ∃ (c : Nat) (s : St), v9 = .int .i64 (s.ec : Int) ∧ v10 = .bool false ∧ v11 = .int .i64 (c : Int) ∧ Good src s ∧ mu src.length s + c ≤ 2 * src.length ∧ s.ec ≤ c * (6 * src.length + 10) + 2 ∧ RemP src s ∧ SC F src s wr ∧ Below F.B W0 wr ∧ Below w.heap.size w wr) (fun _ _ v11 _ => 2 * src.length + 1 - (intOf v11).toNat)
      case atStart =>
        exact ⟨0, _, rfl, rfl, rfl, stNew_good src 0, by unfold mu; rw [stNew_semi]; simp; omega, by have := stNew_ec src 0; omega, remP_new 0, H2.out, BW2.out, B2.out⟩
      case round =>
        obtain ⟨c, s, rfl, rfl, rfl, hgd, hmu, hec, hrp, hs, hbw, hb⟩ := hrel
        have hecs := ec_fits hec (by omega) hbig
        have HSC := Lib.hid (HSCAN.out s wr hs hbw hgd hecs)
        have tl : decide ((c : Int) < 2 * (src.length : Int) + 4) = true := decide_eq_true (by omega)
        have HBW := Lib.hid hbw
        have HBB := Lib.hid hb
        have HGD := Lib.hid hgd
        have HEC := Lib.hid hec
        have HRP := Lib.hid hrp
        clear hs hbw hb H2 B2 BW2 hecs hec hgd hrp
        go_wp2_with (go_at_call 11; refine Hid.out ?_)
        refine Lib.hid ?_
        refine HSC.out.mono ?_
        rintro e w4 ⟨k, x, o, v, hr, rfl, hs4, hb4⟩
        have hf := hr.f HGD.out
        have hen := hr.ecn HGD.out
        have HEV := Lib.hid (ec_step HEC.out (Nat.le_trans hen (by omega)))
        have hce := hf.ec
        have hle4 := hf.le
        have HRV := Lib.hid (hr.remP HGD.out HRP.out)
        have HF := Lib.hid hf
        have HE4 := Lib.hid (ecount_any F src v w4 hs4)
        have S4 := Lib.hid hs4
        have BW4 := Lib.hid (HBW.out.trans hb4)
        have B4 := Lib.hid (HBB.out.trans (hb4.mono hFB0))
        have tc : decide ((v.ec : Int) < (s.ec : Int)) = false := decide_eq_false (by omega)
        have nc : ¬ v.ec < s.ec := by omega
        clear hr hs4 hb4 hf hen HSC HBW HBB HGD HEC HRP
        by_cases hk : k = 1
        · obtain ⟨hl, ho, hch, hse⟩ := HF.out.eof hk
          have hfin := remP_end HF.out.good hch HRV.out
          rw [HR.out] at hfin
          have tk : (k == 1) = true := by simpa using hk
          have tf : decide ((v.ec : Int) ≥ (R : Int)) = true := decide_eq_true (by omega)
          clear hl ho hch hse hk HF hmu
          go_wp2_with (go_at_call 17; refine HE4.out.mono ?_; rintro e w' ⟨rfl, rfl⟩)
          go_ret
          exact ⟨by first | rfl | simp, B4.out⟩
        · have tk : (k == 1) = false := by simpa using hk
          have hfar := HF.out.far hk
          have HG4 := Lib.hid HF.out.good
          clear hk HF
          go_wp2_with (go_at_call 17; refine HE4.out.mono ?_; rintro e w' ⟨rfl, rfl⟩)
          go_roundw
          case rel => exact ⟨c + 1, v, rfl, rfl, by go_num, HG4.out, by omega, HEV.out, HRV.out, S4.out, BW4.out, B4.out⟩
          case measure => simp [intOf]; omega
end Go.Proofs.YtamfekpcoppbgaaFmt
