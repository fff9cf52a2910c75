/-
  FnScanIdentifierLongestRun, walked. Conditions: none (beyond 65536 bytes the law says true at once).
-/
import Derived.Test.YthhmkkpginddbaaFmtMk140
import Derived.Test.YthhmkkpginddbaaFmtIdS
namespace Go.Proofs.YthhmkkpginddbaaFmt
open Go.RowKit
set_option maxRecDepth 100000
set_option linter.unusedVariables false

set_option maxHeartbeats 400000 in
theorem bytes_id (oA : Option Addr) (n cap : Nat) (a : Int) (w : World) (hn : n ≤ 9223372036854775807) :
    Calls Tryf.prog 7 #[.slice oA n cap, .int .i64 a] w fun e w' => e = .returned (.bool (decide (n ≤ 1048576))) ∧ w = w' := by
  by_cases h : n ≤ 1048576
  · have t0 : decide ((n : Int) > 1048576) = false := by simp; omega
    have e0 : decide (n ≤ 1048576) = true := by simpa using h
    rw [e0]
    go_enter Tryf.func7, Tryf.ntmps7
    go_wp2
    go_ret
    exact ⟨rfl, rfl⟩
  · have t0 : decide ((n : Int) > 1048576) = true := by simp; omega
    have e0 : decide (n ≤ 1048576) = false := by simpa using h
    rw [e0]
    go_enter Tryf.func7, Tryf.ntmps7
    go_wp2
    go_ret
    exact ⟨rfl, rfl⟩

set_option maxHeartbeats 400000 in
theorem zzscanId_any (F : Fix) (src : List UInt8) (s : St) (k : Nat) (w : World) (h : SC F src s w) (hg : Good src s) (hr : RunEnd src s.off k) (hjk : s.off < k) (ha : k < src.length → bt src k < 128) (hec : s.ec ≤ 1000000000) :
    Calls Tryf.prog 15 #[.pointer (some ⟨F.gS, 0, none⟩)] w (IdPost F src s.off k s.ec w) := by
  have HC := Lib.hid (scanId_any F src s k w h hg hr hjk ha hec)
  clear h hg hr ha
  go_enter Tryf.func15, Tryf.ntmps15
  go_wp2_with fail
  refine HC.out.mono ?_
  rintro e w2 ⟨t, rfl, h1, h2, h3, h4⟩
  have H := Lib.hid (And.intro h1 (And.intro h2 (And.intro h3 h4)))
  clear h1 h2 h3 h4
  go_wp2
  go_ret
  exact ⟨t, rfl, H.out.1, H.out.2.1, H.out.2.2.1, H.out.2.2.2⟩

set_option maxHeartbeats 4000000 in
theorem id_law (oA : Option Addr) (cap : Nat) (src : List UInt8) (a : Int) (w : World) (hcap : src.length ≤ cap) (hmax : cap ≤ maxLen) (hsrc : SrcAt w w.heap.size oA src) (hnil : oA = none → src = [] ∧ cap = 0) (ha1 : -9223372036854775808 ≤ a) (ha2 : a ≤ 9223372036854775807)
    (htab : Lib.Utf8Tabs 1 2 w) (hg : 1 < w.heap.size ∧ 2 < w.heap.size) :
    Calls Tryf.prog 3 #[.slice oA src.length cap, .int .i64 a] w fun e w' => e = .returned (.bool true) ∧ Below w.heap.size w w' := by
  have hlen : src.length ≤ 9223372036854775807 := by simp only [maxLen] at hmax; omega
  have HB := fun W => bytes_id oA src.length cap a W hlen
  by_cases hbig : src.length ≤ 65536
  rotate_left
  · have t1 : decide ((src.length : Int) > 65536) = true := by simp; omega
    clear hsrc htab
    go_enter Tryf.func3, Tryf.ntmps3
    by_cases h2 : src.length ≤ 1048576
    · have e0 : decide (src.length ≤ 1048576) = true := by simpa using h2
      rw [e0] at HB
      clear e0 h2 hbig
      go_wp2_with (go_at_call 7; refine (HB _).mono ?_; rintro e w2 ⟨rfl, rfl⟩)
      go_ret
      exact ⟨rfl, Below.refl _ _⟩
    · have e0 : decide (src.length ≤ 1048576) = false := by simpa using h2
      rw [e0] at HB
      clear e0 h2 hbig
      go_wp2_with (go_at_call 7; refine (HB _).mono ?_; rintro e w2 ⟨rfl, rfl⟩)
      go_ret
      exact ⟨rfl, Below.refl _ _⟩
  have e0 : decide (src.length ≤ 1048576) = true := by simp; omega
  rw [e0] at HB
  clear e0
  have t1 : decide ((src.length : Int) > 65536) = false := by simp; omega
  by_cases hneg : a < 0
  · have t2 : decide (a < 0) = true := by simpa using hneg
    clear hsrc htab
    go_enter Tryf.func3, Tryf.ntmps3
    go_wp2_with (go_at_call 7; refine (HB _).mono ?_; rintro e w2 ⟨rfl, rfl⟩)
    go_ret
    exact ⟨rfl, Below.refl _ _⟩
  by_cases hge : a ≥ (src.length : Int)
  · have t2 : decide (a < 0) = false := by simpa using hneg
    have t3 : decide (a ≥ (src.length : Int)) = true := by simpa using hge
    clear hsrc htab
    go_enter Tryf.func3, Tryf.ntmps3
    go_wp2_with (go_at_call 7; refine (HB _).mono ?_; rintro e w2 ⟨rfl, rfl⟩)
    go_ret
    exact ⟨rfl, Below.refl _ _⟩
  obtain ⟨j, rfl⟩ : ∃ j : Nat, a = (j : Int) := ⟨a.toNat, by omega⟩
  have hj : j < src.length := by omega
  clear hneg hge ha1 ha2
  have t2 : decide ((j : Int) < 0) = false := by simp
  have t3 : decide ((j : Int) ≥ (src.length : Int)) = false := by simp; omega
  obtain ⟨b, o, eo, hbb, hcc⟩ := hsrc.at_ (by omega)
  have hcell : ∀ i, i < src.length → w.cell? ⟨b, o + i, none⟩ = some (.int .u8 (bt src i : Int)) := by
    intro i hi
    rw [hcc i hi]
    simp [bt, hi, List.getD]
  have HIE := Lib.hid (idEnd_any oA cap src j w hsrc (by omega) (by omega))
  have HC := Lib.hid (clone_any oA cap src w hsrc hnil (by omega))
  have HT := Lib.hid htab
  have HCL := Lib.hid hcell
  subst eo
  clear hsrc htab hnil hcc hcell
  go_enter Tryf.func3, Tryf.ntmps3
  go_wp2_with (go_at_call 7; refine (HB _).mono ?_; rintro e w2 ⟨rfl, rfl⟩)
  go_loopw [5] (fun v wr => ∃ i : Nat, i ≤ j + 1 ∧ (∀ x, x < i → bt src x < 128) ∧ v = .int .i64 i ∧ w = wr) (fun v _ => j + 1 - (intOf v).toNat)
  case atStart => exact ⟨0, Nat.zero_le _, fun x hx => by omega, rfl, rfl⟩
  case round =>
    obtain ⟨i, hi, hall, rfl, rfl⟩ := hrel
    have HAL := Lib.hid hall
    clear hall HB
    by_cases hlt : i ≤ j
    · have tl : decide ((i : Int) ≤ (j : Int)) = true := by simpa using hlt
      have hc := HCL.out i (by omega)
      by_cases h128 : bt src i < 128
      · have t4 : decide ((bt src i : Int) ≥ 128) = false := by simp; omega
        have H128 := Lib.hid h128
        clear h128
        go_wp2
        go_roundw
        case rel =>
          refine ⟨i + 1, by omega, fun x hx => ?_, by go_num, by simp⟩
          by_cases hx2 : x = i
          · rw [hx2]
            exact H128.out
          · exact HAL.out x (by omega)
        case measure => simp [intOf]; omega
      · have t4 : decide ((bt src i : Int) ≥ 128) = true := by simp; omega
        clear h128
        go_wp2
        go_ret
        exact ⟨rfl, Below.refl _ _⟩
    obtain rfl : i = j + 1 := by omega
    have tl : decide (((j + 1 : Nat) : Int) ≤ (j : Int)) = false := by simp; omega
    have hc := HCL.out j hj
    rcases hl : asciiLetter (bt src j) with _ | _
    · have HL := Lib.hid hl
      clear hl
      go_wp2_with (go_at_call 8; refine (idStart_any _ _).mono ?_; rintro e w' ⟨rfl, rfl⟩; rw [HL.out])
      go_ret
      exact ⟨rfl, Below.refl _ _⟩
    have HL := Lib.hid hl
    clear hl
    go_wp2_with first | (go_at_call 8; refine (idStart_any _ _).mono ?_; rintro e w' ⟨rfl, rfl⟩; rw [HL.out]) | (go_at_call 9; refine (HIE.out).mono ?_; rintro e w' ⟨k, hk, rfl, rfl⟩; have HRE := Lib.hid hk; clear hk; refine Hid.out ?_)
    refine Lib.hid ?_
    have hkl := HRE.out.len
    have hjk : j < k := by
      rcases Nat.lt_or_ge j k with h | h
      · exact h
      · have hk : k = j := by have := HRE.out.le; omega
        have := HRE.out.stop (by omega)
        rw [hk] at this
        simp [idp, HL.out] at this
    by_cases hkn : k < src.length
    · have tk : decide ((k : Int) < (src.length : Int)) = true := by simpa using hkn
      have hck0 := HCL.out k hkn
      by_cases h128 : bt src k < 128
      · have t5 : decide ((bt src k : Int) ≥ 128) = false := by simp; omega
        have HAS : Hid (k < src.length → bt src k < 128) := Lib.hid fun _ => h128
        go_wp2_with fail
        refine HC.out.mono ?_
        rintro e w1 ⟨oB, cap1, rfl, hcap1, hsrc1, _, hb1⟩
        have hsz1 := hb1.size
        have htab1 := tabs_keep HT.out hg.1 hg.2 hb1.block
        have HM := Lib.hid (mk_any oB cap1 src w1 hsrc1 htab1 (by omega) (by omega) hcap1)
        have B1 := Lib.hid hb1
        clear hsrc1 htab1 hb1 HC HT hc
        go_wp2_with fail
        refine HM.out.mono ?_
        rintro e w2 ⟨F, rfl, hFB, hFo, hFc, hs2, hb2⟩
        subst hFo hFc
        have hB2 : Below w.heap.size w w2 := B1.out.trans (hb2.mono hsz1)
        have hFB0 : w.heap.size ≤ F.B := by omega
        have H2 := Lib.hid hs2
        have B2 := Lib.hid hB2
        clear hs2 hb2 hB2 HM B1 hFB
        go_wp2_with fail
        go_loopw [9] (fun v wr => ∃ (i : Nat) (s : St), i ≤ j ∧ v = .int .i64 i ∧ Good src s ∧ s.off = i ∧ s.ec ≤ i + 1 ∧ SC F src s wr ∧ Below w.heap.size w wr) (fun v _ => j - (intOf v).toNat)
        case atStart => exact ⟨0, _, Nat.zero_le _, rfl, stNew_good src 0, (stNew_ascii src (by omega) (HAL.out 0 (by omega))).1, (stNew_ascii src (by omega) (HAL.out 0 (by omega))).2, H2.out, B2.out⟩
        case round =>
          obtain ⟨i, s, hij, rfl, hgd, hoff, hec, hs, hb⟩ := hrel
          have HS := Lib.hid hs
          have HX := Lib.hid hb
          have HGD := Lib.hid hgd
          have HOF := Lib.hid hoff
          clear hs hb hgd hoff H2 B2
          by_cases hlt : i < j
          · have tl : decide ((i : Int) < (j : Int)) = true := by simpa using hlt
            have HNA := Lib.hid (nx_ascii HGD.out (by rw [HOF.out]; omega) (by rw [HOF.out]; exact HAL.out i (by omega)))
            have hne := nx_ec src s
            go_wp2_with (go_at_call 12; refine (zznext_any F src s _ HS.out (by omega)).mono ?_; rintro e w3 ⟨rfl, hs3, hb3⟩; have H3 := Lib.hid hs3; have B3 := Lib.hid (HX.out.trans (hb3.mono hFB0)); clear hs3 hb3)
            go_roundw
            case rel => exact ⟨i + 1, nx src s, by omega, by go_num, HNA.out.2.2.1, by rw [HNA.out.2.1, HOF.out], by omega, H3.out, B3.out⟩
            case measure => simp [intOf]; omega
          · obtain rfl : i = j := by omega
            have tl : decide ((i : Int) < (i : Int)) = false := by simp
            have hso := HOF.out
            have tne : ((s.off : Int) != (i : Int)) = false := by simp [hso]
            have HID := Lib.hid (zzscanId_any F src s k _ HS.out HGD.out (by rw [hso]; exact HRE.out) (by omega) HAS.out (by omega))
            clear hso hlt
            go_wp2_with first | (go_at_call 13; refine (zzoff_any F src s _ HS.out).mono ?_; rintro e w' ⟨rfl, rfl⟩) | (go_at_call 16; refine (zzch_any F src s _ HS.out).mono ?_; rintro e w' ⟨rfl, rfl⟩) | (go_at_call 14; refine (errcount_any F src s _ HS.out).mono ?_; rintro e w' ⟨rfl, rfl⟩)
            refine HID.out.mono ?_
            rintro e w4 ⟨u, rfl, hin, huo, hs4, hb4⟩
            have hso := HOF.out
            rw [hso] at hin ⊢
            have hue := hin.ec
            have hub := hin.good
            obtain ⟨b4, o4, eo4, hbb4, hcc4⟩ := hs4.srcAt.at_ (by omega)
            have hcv := run_cut src i k b4 o4 (F.cap - i) w4 (by omega) hkl hcc4
            have hcl := hs4.cap
            have hsl := fun W => run_sl W b4 o4 src.length F.cap i k (by omega) (by omega) (by omega)
            have hslA := fun W => run_slA W b4 o4 src.length F.cap i k (by omega) (by omega) (by omega)
            have tof : ((u.off : Int) != (k : Int)) = false := by simp [huo]
            have hcell4 : ∀ x, x < src.length → w4.cell? ⟨b4, o4 + x, none⟩ = some (.int .u8 (bt src x : Int)) := by
              intro x hx
              rw [hcc4 x hx]
              simp [bt, hx, List.getD]
            have H4 := Lib.hid hs4
            have B4 := Lib.hid (HX.out.trans (hb4.mono hFB0))
            rw [eo4]
            clear hs4 hb4 hin hcc4 eo4 HID HS HX hso
            have hck := hcell4 k hkn
            have hch : u.ch = (bt src k : Int) := by
              rcases hub with ⟨h1, h2, h3⟩ | ⟨h1, h2, h3⟩
              · have hw := (rn_facts src u.off h1).2.2.2.2.2 (by rw [huo]; exact HAS.out hkn)
                rw [hw] at h3
                rw [h3, huo]
              · omega
            have tch : (u.ch != (bt src k : Int)) = false := by simp [hch]
            rw [huo] at hue
            clear hcell4 hub
            by_cases hz : bt src k = 0
            · rw [if_pos ⟨rfl, hkn, hz⟩] at hue
              have tz : ((bt src k : Int) == 0) = true := by simp [hz]
              have tee : ((u.ec : Int) - (s.ec : Int) == 1) = true := by simp; omega
              have HCH := Lib.hid (And.intro hch (And.intro huo hz))
              have hu9 : (u.ec : Int) ≤ 1000000 := by omega
              clear hch huo hz hue
              go_wp2_with first | (go_at_call 13; refine (zzoff_any F src u _ H4.out).mono ?_; rintro e w' ⟨rfl, rfl⟩) | (go_at_call 16; refine (zzch_any F src u _ H4.out).mono ?_; rintro e w' ⟨rfl, rfl⟩) | (go_at_call 14; refine (errcount_any F src u _ H4.out).mono ?_; rintro e w' ⟨rfl, rfl⟩)
              go_ret
              exact ⟨rfl, B4.out⟩
            · rw [if_neg (fun h => hz h.2.2)] at hue
              have tz : ((bt src k : Int) == 0) = false := by simpa using hz
              have tee : ((u.ec : Int) - (s.ec : Int) == 0) = true := by simp; omega
              have HCH := Lib.hid (And.intro hch (And.intro huo hz))
              have hu9 : (u.ec : Int) ≤ 1000000 := by omega
              clear hch huo hz hue
              go_wp2_with first | (go_at_call 13; refine (zzoff_any F src u _ H4.out).mono ?_; rintro e w' ⟨rfl, rfl⟩) | (go_at_call 16; refine (zzch_any F src u _ H4.out).mono ?_; rintro e w' ⟨rfl, rfl⟩) | (go_at_call 14; refine (errcount_any F src u _ H4.out).mono ?_; rintro e w' ⟨rfl, rfl⟩)
              go_ret
              exact ⟨rfl, B4.out⟩

      · have t5 : decide ((bt src k : Int) ≥ 128) = true := by simp; omega
        go_wp2
        go_ret
        exact ⟨rfl, Below.refl _ _⟩
    · have tk : decide ((k : Int) < (src.length : Int)) = false := by simpa using hkn
      have HAS : Hid (k < src.length → bt src k < 128) := Lib.hid fun h => absurd h hkn
      go_wp2_with fail
      refine HC.out.mono ?_
      rintro e w1 ⟨oB, cap1, rfl, hcap1, hsrc1, _, hb1⟩
      have hsz1 := hb1.size
      have htab1 := tabs_keep HT.out hg.1 hg.2 hb1.block
      have HM := Lib.hid (mk_any oB cap1 src w1 hsrc1 htab1 (by omega) (by omega) hcap1)
      have B1 := Lib.hid hb1
      clear hsrc1 htab1 hb1 HC HT hc
      go_wp2_with fail
      refine HM.out.mono ?_
      rintro e w2 ⟨F, rfl, hFB, hFo, hFc, hs2, hb2⟩
      subst hFo hFc
      have hB2 : Below w.heap.size w w2 := B1.out.trans (hb2.mono hsz1)
      have hFB0 : w.heap.size ≤ F.B := by omega
      have H2 := Lib.hid hs2
      have B2 := Lib.hid hB2
      clear hs2 hb2 hB2 HM B1 hFB
      go_wp2_with fail
      go_loopw [9] (fun v wr => ∃ (i : Nat) (s : St), i ≤ j ∧ v = .int .i64 i ∧ Good src s ∧ s.off = i ∧ s.ec ≤ i + 1 ∧ SC F src s wr ∧ Below w.heap.size w wr) (fun v _ => j - (intOf v).toNat)
      case atStart => exact ⟨0, _, Nat.zero_le _, rfl, stNew_good src 0, (stNew_ascii src (by omega) (HAL.out 0 (by omega))).1, (stNew_ascii src (by omega) (HAL.out 0 (by omega))).2, H2.out, B2.out⟩
      case round =>
        obtain ⟨i, s, hij, rfl, hgd, hoff, hec, hs, hb⟩ := hrel
        have HS := Lib.hid hs
        have HX := Lib.hid hb
        have HGD := Lib.hid hgd
        have HOF := Lib.hid hoff
        clear hs hb hgd hoff H2 B2
        by_cases hlt : i < j
        · have tl : decide ((i : Int) < (j : Int)) = true := by simpa using hlt
          have HNA := Lib.hid (nx_ascii HGD.out (by rw [HOF.out]; omega) (by rw [HOF.out]; exact HAL.out i (by omega)))
          have hne := nx_ec src s
          go_wp2_with (go_at_call 12; refine (zznext_any F src s _ HS.out (by omega)).mono ?_; rintro e w3 ⟨rfl, hs3, hb3⟩; have H3 := Lib.hid hs3; have B3 := Lib.hid (HX.out.trans (hb3.mono hFB0)); clear hs3 hb3)
          go_roundw
          case rel => exact ⟨i + 1, nx src s, by omega, by go_num, HNA.out.2.2.1, by rw [HNA.out.2.1, HOF.out], by omega, H3.out, B3.out⟩
          case measure => simp [intOf]; omega
        · obtain rfl : i = j := by omega
          have tl : decide ((i : Int) < (i : Int)) = false := by simp
          have hso := HOF.out
          have tne : ((s.off : Int) != (i : Int)) = false := by simp [hso]
          have HID := Lib.hid (zzscanId_any F src s k _ HS.out HGD.out (by rw [hso]; exact HRE.out) (by omega) HAS.out (by omega))
          clear hso hlt
          go_wp2_with first | (go_at_call 13; refine (zzoff_any F src s _ HS.out).mono ?_; rintro e w' ⟨rfl, rfl⟩) | (go_at_call 16; refine (zzch_any F src s _ HS.out).mono ?_; rintro e w' ⟨rfl, rfl⟩) | (go_at_call 14; refine (errcount_any F src s _ HS.out).mono ?_; rintro e w' ⟨rfl, rfl⟩)
          refine HID.out.mono ?_
          rintro e w4 ⟨u, rfl, hin, huo, hs4, hb4⟩
          have hso := HOF.out
          rw [hso] at hin ⊢
          have hue := hin.ec
          have hub := hin.good
          obtain ⟨b4, o4, eo4, hbb4, hcc4⟩ := hs4.srcAt.at_ (by omega)
          have hcv := run_cut src i k b4 o4 (F.cap - i) w4 (by omega) hkl hcc4
          have hcl := hs4.cap
          have hsl := fun W => run_sl W b4 o4 src.length F.cap i k (by omega) (by omega) (by omega)
          have hslA := fun W => run_slA W b4 o4 src.length F.cap i k (by omega) (by omega) (by omega)
          have tof : ((u.off : Int) != (k : Int)) = false := by simp [huo]
          have hcell4 : ∀ x, x < src.length → w4.cell? ⟨b4, o4 + x, none⟩ = some (.int .u8 (bt src x : Int)) := by
            intro x hx
            rw [hcc4 x hx]
            simp [bt, hx, List.getD]
          have H4 := Lib.hid hs4
          have B4 := Lib.hid (HX.out.trans (hb4.mono hFB0))
          rw [eo4]
          clear hs4 hb4 hin hcc4 eo4 HID HS HX hso
          have hch : u.ch = -1 := by
            rcases hub with ⟨h1, h2, h3⟩ | ⟨h1, h2, h3⟩
            · omega
            · exact h3
          have tch : (u.ch != -1) = false := by simp [hch]
          rw [huo, if_neg (fun h => hkn h.2.1)] at hue
          have tee : ((u.ec : Int) - (s.ec : Int) == 0) = true := by simp; omega
          have HCH := Lib.hid (And.intro hch huo)
          have hu9 : (u.ec : Int) ≤ 1000000 := by omega
          clear hch huo hcell4 hub hue
          go_wp2_with first | (go_at_call 13; refine (zzoff_any F src u _ H4.out).mono ?_; rintro e w' ⟨rfl, rfl⟩) | (go_at_call 16; refine (zzch_any F src u _ H4.out).mono ?_; rintro e w' ⟨rfl, rfl⟩) | (go_at_call 14; refine (errcount_any F src u _ H4.out).mono ?_; rintro e w' ⟨rfl, rfl⟩)
          go_ret
          exact ⟨rfl, B4.out⟩


end Go.Proofs.YthhmkkpginddbaaFmt
