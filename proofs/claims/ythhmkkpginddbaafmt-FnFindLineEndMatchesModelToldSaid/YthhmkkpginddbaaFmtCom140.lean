/-
  FnScanCommentMatchesModel, walked. Conditions: none (beyond 65536 bytes the law says true at once).
-/
import Derived.Test.YthhmkkpginddbaaFmtMk140
import Derived.Test.YthhmkkpginddbaaFmtCommentB
namespace Go.Proofs.YthhmkkpginddbaaFmt
open Go.RowKit
set_option maxRecDepth 100000
set_option linter.unusedVariables false

set_option maxHeartbeats 400000 in
theorem bytes_com (oA : Option Addr) (n cap : Nat) (w : World) (hn : n ≤ 9223372036854775807) :
    Calls Tryf.prog 25 #[.slice oA n cap] w fun e w' => e = .returned (.bool (decide (n ≤ 1048576))) ∧ w = w' := by
  by_cases h : n ≤ 1048576
  · have t0 : decide ((n : Int) > 1048576) = false := by simp; omega
    have e0 : decide (n ≤ 1048576) = true := by simpa using h
    rw [e0]
    go_enter Tryf.func25, Tryf.ntmps25
    go_wp2
    go_ret
    exact ⟨rfl, rfl⟩
  · have t0 : decide ((n : Int) > 1048576) = true := by simp; omega
    have e0 : decide (n ≤ 1048576) = false := by simpa using h
    rw [e0]
    go_enter Tryf.func25, Tryf.ntmps25
    go_wp2
    go_ret
    exact ⟨rfl, rfl⟩


set_option maxHeartbeats 400000 in
theorem zzcom_any (F : Fix) (src txt : List UInt8) (k e0 : Nat) (w : World) (h : Calls Tryf.prog 35 #[.pointer (some ⟨F.gS, 0, none⟩)] w (ComPost F src txt k e0 w)) :
    Calls Tryf.prog 24 #[.pointer (some ⟨F.gS, 0, none⟩)] w (ComPost F src txt k e0 w) := by
  have HC := Lib.hid h
  clear h
  go_enter Tryf.func24, Tryf.ntmps24
  go_wp2_with fail
  refine HC.out.mono ?_
  rintro e w2 ⟨t, rfl, h1, h2, h3, h4, h5⟩
  have H := Lib.hid (And.intro h1 (And.intro h2 (And.intro h3 (And.intro h4 h5))))
  clear h1 h2 h3 h4 h5
  go_wp2
  go_ret
  exact ⟨t, rfl, H.out.1, H.out.2.1, H.out.2.2.1, H.out.2.2.2.1, H.out.2.2.2.2⟩

def u8c (l : List UInt8) : List Value := l.map fun b => Value.int .u8 (b.toNat : Int)
theorem mk0 (k : Nat) (hk : k ≤ 1048576) (w : World) : (Instr.makeSlice 22 (.int .i64 0) (.int .i64 (k : Int))).run Tryf.prog w = .ok (.slice (some ⟨w.heap.size, 0, none⟩) 0 k) (w.alloc (.cells (madeCells #[.int .u8 0] k) 5)) := by
  obtain ⟨i0, hi, hz0, hz1, hz2⟩ := info_parts cl_info
  have h := run_make (P := Tryf.prog) w 22 5 i0 _ Tryf.underlying22 hi hz0 .i64 .i64 0 k (by omega) (by omega) (by rw [hz2]; omega) (by omega)
  rw [h, hz1]
  simp [Value.cells]
theorem own0 {w : World} {B g k : Nat} (hb : Blk w g 5 (madeCells #[.int .u8 0] k)) (hB : B ≤ g) (hk : k ≤ 1048576) : w.ownsRow B 5 1 (.slice (some ⟨g, 0, none⟩) 0 k) 0 (u8c []) :=
  ⟨by simp [u8c], Or.inr ⟨g, k, _, rfl, hB, hb, Nat.zero_le _, by simp [maxLen]; omega, by simp [size_madeCells], by simp [u8c]⟩⟩
theorem own_shape8 {w : World} {B n : Nat} {v : Value} {xs : List Value} (h : w.ownsRow B 5 1 v n xs) (hn : 1 ≤ n) : ∃ g cap, v = .slice (some ⟨g, 0, none⟩) n cap ∧ B ≤ g := by
  rcases h.2 with ⟨_, h0⟩ | ⟨g, cap, cur, hv, hg, _⟩
  · omega
  · exact ⟨g, cap, hv, hg⟩
theorem own_base8 {w : World} {B g n cap : Nat} {xs : List Value} (h : w.ownsRow B 5 1 (.slice (some ⟨g, 0, none⟩) n cap) n xs) : B ≤ g ∧ g < w.heap.size := by
  rcases h.2 with ⟨h0, _⟩ | ⟨g', cap', cur, hv, hg', hh, _⟩
  · cases h0
  · injection hv with h1
    injection h1 with h1
    injection h1 with h1
    subst h1
    exact ⟨hg', Blk.lt (t := 5) hh⟩
theorem own_at8 {w : World} {B g cap n : Nat} {l : List UInt8} (h : w.ownsRow B 5 1 (.slice (some ⟨g, 0, none⟩) n cap) n (u8c l)) (i : Nat) (hi : i < l.length) : w.cell? ⟨g, 0 + i, none⟩ = some (.int .u8 (l[i].toNat : Int)) := by
  have h1 : (u8c l)[i]? = some (.int .u8 (l[i].toNat : Int)) := by
    unfold u8c
    rw [List.getElem?_map, List.getElem?_eq_getElem hi]
    rfl
  have := h.cells (g := g) rfl i _ h1
  have ea : (⟨g, 0, none⟩ : Addr).add i = ⟨g, 0 + i, none⟩ := by unfold Addr.add; split <;> simp_all
  rw [ea] at this
  exact this
theorem filt_take (src : List UInt8) (i : Nat) (hi : i < src.length) : filt (src.take (i + 1)) = if bt src i = 13 then filt (src.take i) else filt (src.take i) ++ [src.getD i 0] := by
  have hg : src.take (i + 1) = src.take i ++ [src.getD i 0] := by
    rw [List.take_add_one]
    simp [List.getD, hi]
  rw [hg]
  unfold filt
  rw [List.filter_append]
  by_cases hb : bt src i = 13
  · have hb' : (src[i]?.getD 0).toNat = 13 := hb
    simp [hb, hb']
  · have hb' : ¬ (src[i]?.getD 0).toNat = 13 := hb
    simp [hb, hb']
theorem filt_len (l : List UInt8) : (filt l).length ≤ l.length := List.length_filter_le _ _
theorem cut_take (src : List UInt8) (k : Nat) : cut src 0 k = src.take k := by simp [cut]

set_option maxHeartbeats 8000000 in
theorem com_law (oA : Option Addr) (cap : Nat) (src : List UInt8) (w : World) (hcap : src.length ≤ cap) (hmax : cap ≤ maxLen) (hsrc : SrcAt w w.heap.size oA src) (hnil : oA = none → src = [] ∧ cap = 0)
    (htab : Lib.Utf8Tabs 1 2 w) (hg : 1 < w.heap.size ∧ 2 < w.heap.size) :
    Calls Tryf.prog 6 #[.slice oA src.length cap] w fun e w' => e = .returned (.bool true) ∧ Below w.heap.size w w' := by
  have hlen : src.length ≤ 9223372036854775807 := by simp only [maxLen] at hmax; omega
  have HB := fun W => bytes_com oA src.length cap W hlen
  by_cases hbig : src.length ≤ 65536
  rotate_left
  · have t1 : decide ((src.length : Int) > 65536) = true := by simp; omega
    clear hsrc htab
    go_enter Tryf.func6, Tryf.ntmps6
    by_cases h2 : src.length ≤ 1048576
    · have e0 : decide (src.length ≤ 1048576) = true := by simpa using h2
      rw [e0] at HB
      clear e0 h2 hbig
      go_wp2_with (go_at_call 25; refine (HB _).mono ?_; rintro e w2 ⟨rfl, rfl⟩)
      go_ret
      exact ⟨rfl, Below.refl _ _⟩
    · have e0 : decide (src.length ≤ 1048576) = false := by simpa using h2
      rw [e0] at HB
      clear e0 h2 hbig
      go_wp2_with (go_at_call 25; refine (HB _).mono ?_; rintro e w2 ⟨rfl, rfl⟩)
      go_ret
      exact ⟨rfl, Below.refl _ _⟩
  have e0 : decide (src.length ≤ 1048576) = true := by simp; omega
  rw [e0] at HB
  clear e0
  have t1 : decide ((src.length : Int) > 65536) = false := by simp; omega
  by_cases hn2 : src.length < 2
  · have t2 : decide ((src.length : Int) < 2) = true := by simp; omega
    clear hsrc htab
    go_enter Tryf.func6, Tryf.ntmps6
    go_wp2_with (go_at_call 25; refine (HB _).mono ?_; rintro e w2 ⟨rfl, rfl⟩)
    go_ret
    exact ⟨rfl, Below.refl _ _⟩
  have t2 : decide ((src.length : Int) < 2) = false := by simp; omega
  obtain ⟨b0, o0, eo0, hbb0, hcc0⟩ := hsrc.at_ (by omega)
  have q0 : w.cell? ⟨b0, o0, none⟩ = some (.int .u8 (bt src 0 : Int)) := by
    have := hcc0 0 (by omega)
    rw [Nat.add_zero] at this
    rw [this]
    simp [bt, List.getD, show 0 < src.length by omega]
  have q1 : w.cell? ⟨b0, o0 + 1, none⟩ = some (.int .u8 (bt src 1 : Int)) := by
    rw [hcc0 1 (by omega)]
    simp [bt, List.getD, show 1 < src.length by omega]
  have HC := Lib.hid (clone_any oA cap src w hsrc hnil (by omega))
  have HT := Lib.hid htab
  subst eo0
  clear hsrc htab hnil hcc0
  by_cases hz0 : bt src 0 = 47
  rotate_left
  · have t3 : ((bt src 0 : Int) != 47) = true := by simp; omega
    go_enter Tryf.func6, Tryf.ntmps6
    go_wp2_with (go_at_call 25; refine (HB _).mono ?_; rintro e w2 ⟨rfl, rfl⟩)
    go_ret
    exact ⟨rfl, Below.refl _ _⟩
  have t3 : ((bt src 0 : Int) != 47) = false := by simp [hz0]
  by_cases hz1 : bt src 1 = 42
  · have HZ01 := Lib.hid (And.intro hz0 hz1)
    rw [hz0] at q0
    rw [hz1] at q1
    clear hz0 hz1 t3
    go_enter Tryf.func6, Tryf.ntmps6
    go_wp2_with (go_at_call 25; refine (HB _).mono ?_; rintro e w2 ⟨rfl, rfl⟩)
    refine HC.out.mono ?_
    rintro e w1 ⟨oB, cap1, rfl, hcap1, hsrc1, _, hb1⟩
    obtain ⟨b, o, eo, hbb, hcc⟩ := hsrc1.at_ (by omega)
    subst eo
    have hsz1 := hb1.size
    have hbt : ∀ i, i < src.length → w1.cell? ⟨b, o + i, none⟩ = some (.int .u8 (bt src i : Int)) := by
      intro i hi
      rw [hcc i hi]
      simp [bt, hi, List.getD]
    have r1 : w1.cell? ⟨b, o + 1, none⟩ = some (.int .u8 42) := by
      rw [hbt 1 (by omega), HZ01.out.2]
      rfl
    have HT1 := Lib.hid (tabs_keep HT.out hg.1 hg.2 hb1.block)
    have HCC := Lib.hid hcc
    have HBT := Lib.hid hbt
    have B1 := Lib.hid hb1
    clear hsrc1 hb1 hcc hbt HC HT HB q0 q1
    go_wp2_with fail
    go_loopw [4, 8] (fun u v wr => ∃ i : Nat, u = .int .i64 (src.length : Int) ∧ 2 ≤ i ∧ i ≤ src.length ∧ (∀ x, 2 ≤ x → x < i → ¬ ss src x) ∧ v = .int .i64 i ∧ w1 = wr) (fun _ v _ => src.length - (intOf v).toNat)
    case atStart => exact ⟨2, rfl, Nat.le_refl _, by omega, fun x h1 h2 => by omega, rfl, rfl⟩
    case round =>
      obtain ⟨i, rfl, hi2, hin, hall, rfl, rfl⟩ := hrel
      obtain ⟨hz0, hz1⟩ := HZ01.out
      have HAL := Lib.hid hall
      clear hall r1
      by_cases hlt : i + 1 < src.length
      · have tl : decide ((i : Int) + 1 < (src.length : Int)) = true := by simp; omega
        have s1 := HBT.out i (by omega)
        have s2 := HBT.out (i + 1) (by omega)
        by_cases h42 : bt src i = 42
        · by_cases h47 : bt src (i + 1) = 47
          · have ta : ((bt src i : Int) == 42) = true := by simp [h42]
            have tb : ((bt src (i + 1) : Int) == 47) = true := by simp [h47]
            have HBC : Hid (BcEnd src 0 (i + 2) true) := Lib.hid ⟨by omega, by omega, fun x x1 x2 => HAL.out x (by omega) (by omega), fun _ => ⟨by omega, ⟨h42, hlt, h47⟩⟩, (fun h => nomatch h)⟩
            clear h42 h47
            have hkl := HBC.out.lo
            have hkh := HBC.out.hi
            have hcut := cut_len src 0 (i + 2) hkh
            rw [Nat.sub_zero] at hcut
            have hsl := fun W => run_slo W b o src.length cap1 (i + 2) (by omega)
            have hslA := fun W => run_sloA W b o src.length cap1 (i + 2) (by omega)
            have hcc2 := cut_cells (p := 0) hkh HCC.out
            have hcl := clone_any (some ⟨b, o, none⟩) cap1 (cut src 0 (i + 2)) w1 (Or.inr ⟨b, o, rfl, hbb, by simpa using hcc2⟩) (fun h => nomatch h) (by omega)
            rw [hcut] at hcl
            have HCL := Lib.hid hcl
            clear hcl hcc2
            go_wp2_with fail
            refine HCL.out.mono ?_
            rintro e w2 ⟨oC, cap2, rfl, hcap2, hsrc2, hnil2, hb2⟩
            obtain ⟨b2, o2, e2, hbb2, hcc2⟩ := hsrc2.at_ (by omega)
            subst e2
            have hst := strip_any b2 o2 cap2 (cut src 0 (i + 2)) true w2 hbb2 hcc2 (by omega)
            rw [hcut] at hst ⊢
            have HST := Lib.hid hst
            have B2 := Lib.hid hb2
            clear hst hb2 hsrc2 hnil2 hcc2 HCL hcap2
            go_wp2_with fail
            refine HST.out.mono ?_
            rintro e w3 ⟨gw, capw, rfl, _, hg3, hc3, hb3⟩
            have hb13 : Below w1.heap.size w1 w3 := B2.out.trans (hb3.mono B2.out.size)
            have HSR : Hid (SrcAt w3 w3.heap.size (some ⟨b, o, none⟩) src) := Lib.hid (SrcAt.more (SrcAt.keep (w := w1) (B := w1.heap.size) (Or.inr ⟨b, o, rfl, hbb, HCC.out⟩) hb13.block) hb13.size)
            have HTT := Lib.hid (tabs_keep HT1.out (by have := hsz1; omega) (by have := hsz1; omega) hb13.block)
            have HSZ : Hid (w.heap.size ≤ w3.heap.size) := Lib.hid (by have := hb13.size; omega)
            have HGW := Lib.hid hg3
            have HCW := Lib.hid hc3
            have HBW := Lib.hid (B1.out.trans (hb13.mono hsz1))
            clear hg3 hc3 hb3 hb13 HST B2 hsl hslA HT1
            have HM := Lib.hid (mk_any (some ⟨b, o, none⟩) cap1 src w3 HSR.out HTT.out (by have := HSZ.out; omega) (by omega) hcap1)
            clear HTT
            go_wp2_with fail
            refine HM.out.mono ?_
            rintro e w5 ⟨F, rfl, hFB, hFo, hFc, hs5, hb5⟩
            have hna := nx_ascii (stNew_good src 0) (by rw [(stNew_ascii src (by omega) (by omega)).1]; omega) (by rw [(stNew_ascii src (by omega) (by omega)).1]; omega)
            rw [(stNew_ascii src (by omega) (by omega)).1] at hna
            have hec0 := (stNew_ascii src (by omega) (by omega)).2
            have hec1 := nx_ec src (stNew src 0)
            have HNA := Lib.hid hna
            have H5 := Lib.hid hs5
            have B5 := Lib.hid hb5
            clear hna hs5 hb5 HM hFo hFc
            go_wp2_with fail
            refine (zznext_any F src _ _ H5.out (by omega)).mono ?_
            rintro e w6 ⟨rfl, hs6, hb6⟩
            have HZ := Lib.hid (comBlk_any F src _ 0 (i + 2) _ w6 hs6 HNA.out.2.2.1 HNA.out.2.1 hz0 (by simpa using hz1) (by omega) HBC.out (by omega))
            have H6 := Lib.hid hs6
            have B6 := Lib.hid (B5.out.trans (hb6.mono hFB))
            clear hs6 hb6 H5 B5
            go_wp2_with fail
            refine (zzcom_any F src _ (i + 2) _ _ HZ.out).mono ?_
            rintro e w7 ⟨t7, rfl, _, ht7, _, hs7, hb7⟩
            have hB7 : Below w3.heap.size w3 w7 := B6.out.trans (hb7.mono hFB)
            have hcv := run_txt (strip (cut src 0 (i + 2)) true) gw 0 capw w7 (fun i hi => (hB7.cell (p := ⟨gw, 0 + i, none⟩) HGW.out).trans (HCW.out i hi))
            have to7 : ((t7.off : Int) == ((i : Int) + 2)) = true := by rw [ht7]; simp
            have H7 := Lib.hid hs7
            have B7 := Lib.hid (HBW.out.trans (hB7.mono (by have := HSZ.out; omega)))
            clear hs7 hb7 hB7 ht7 HZ B6 H6
            go_wp2_with (go_at_call 13; refine (zzoff_any F src t7 _ H7.out).mono ?_; rintro e w' ⟨rfl, rfl⟩)
            go_ret
            exact ⟨rfl, B7.out⟩
          · have ta : ((bt src i : Int) == 42) = true := by simp [h42]
            have tb : ((bt src (i + 1) : Int) == 47) = false := by simp; omega
            have HN : Hid (¬ ss src i) := Lib.hid fun h => h47 h.2.2
            clear h42 h47
            go_wp2_with fail
            go_roundw
            case rel =>
              refine ⟨i + 1, rfl, by omega, by omega, fun x x1 x2 => ?_, by go_num, by simp⟩
              by_cases hx : x = i
              · rw [hx]
                exact HN.out
              · exact HAL.out x x1 (by omega)
            case measure => simp [intOf]; omega
        · have ta : ((bt src i : Int) == 42) = false := by simp; omega
          have HN : Hid (¬ ss src i) := Lib.hid fun h => h42 h.1
          clear h42
          go_wp2_with fail
          go_roundw
          case rel =>
            refine ⟨i + 1, rfl, by omega, by omega, fun x x1 x2 => ?_, by go_num, by simp⟩
            by_cases hx : x = i
            · rw [hx]
              exact HN.out
            · exact HAL.out x x1 (by omega)
          case measure => simp [intOf]; omega
      · have tl : decide ((i : Int) + 1 < (src.length : Int)) = false := by simp; omega
        have HBC : Hid (BcEnd src 0 src.length false) := Lib.hid ⟨by omega, by omega, fun x x1 x2 => by
          rintro ⟨s1, s2, s3⟩
          exact HAL.out x (by omega) (by omega) ⟨s1, s2, s3⟩, (fun h => nomatch h), fun _ => ⟨rfl, fun x x1 => by
          rintro ⟨s1, s2, s3⟩
          exact HAL.out x (by omega) (by omega) ⟨s1, s2, s3⟩⟩⟩
        have hkl := HBC.out.lo
        have hkh := HBC.out.hi
        have hcut := cut_len src 0 (src.length) hkh
        rw [Nat.sub_zero] at hcut
        have hsl := fun W => run_slo W b o src.length cap1 (src.length) (by omega)
        have hslA := fun W => run_sloA W b o src.length cap1 (src.length) (by omega)
        have hcc2 := cut_cells (p := 0) hkh HCC.out
        have hcl := clone_any (some ⟨b, o, none⟩) cap1 (cut src 0 (src.length)) w1 (Or.inr ⟨b, o, rfl, hbb, by simpa using hcc2⟩) (fun h => nomatch h) (by omega)
        rw [hcut] at hcl
        have HCL := Lib.hid hcl
        clear hcl hcc2
        go_wp2_with fail
        refine HCL.out.mono ?_
        rintro e w2 ⟨oC, cap2, rfl, hcap2, hsrc2, hnil2, hb2⟩
        obtain ⟨b2, o2, e2, hbb2, hcc2⟩ := hsrc2.at_ (by omega)
        subst e2
        have hst := strip_any b2 o2 cap2 (cut src 0 (src.length)) true w2 hbb2 hcc2 (by omega)
        rw [hcut] at hst ⊢
        have HST := Lib.hid hst
        have B2 := Lib.hid hb2
        clear hst hb2 hsrc2 hnil2 hcc2 HCL hcap2
        go_wp2_with fail
        refine HST.out.mono ?_
        rintro e w3 ⟨gw, capw, rfl, _, hg3, hc3, hb3⟩
        have hb13 : Below w1.heap.size w1 w3 := B2.out.trans (hb3.mono B2.out.size)
        have HSR : Hid (SrcAt w3 w3.heap.size (some ⟨b, o, none⟩) src) := Lib.hid (SrcAt.more (SrcAt.keep (w := w1) (B := w1.heap.size) (Or.inr ⟨b, o, rfl, hbb, HCC.out⟩) hb13.block) hb13.size)
        have HTT := Lib.hid (tabs_keep HT1.out (by have := hsz1; omega) (by have := hsz1; omega) hb13.block)
        have HSZ : Hid (w.heap.size ≤ w3.heap.size) := Lib.hid (by have := hb13.size; omega)
        have HGW := Lib.hid hg3
        have HCW := Lib.hid hc3
        have HBW := Lib.hid (B1.out.trans (hb13.mono hsz1))
        clear hg3 hc3 hb3 hb13 HST B2 hsl hslA HT1
        have HM := Lib.hid (mk_any (some ⟨b, o, none⟩) cap1 src w3 HSR.out HTT.out (by have := HSZ.out; omega) (by omega) hcap1)
        clear HTT
        go_wp2_with fail
        refine HM.out.mono ?_
        rintro e w5 ⟨F, rfl, hFB, hFo, hFc, hs5, hb5⟩
        have hna := nx_ascii (stNew_good src 0) (by rw [(stNew_ascii src (by omega) (by omega)).1]; omega) (by rw [(stNew_ascii src (by omega) (by omega)).1]; omega)
        rw [(stNew_ascii src (by omega) (by omega)).1] at hna
        have hec0 := (stNew_ascii src (by omega) (by omega)).2
        have hec1 := nx_ec src (stNew src 0)
        have HNA := Lib.hid hna
        have H5 := Lib.hid hs5
        have B5 := Lib.hid hb5
        clear hna hs5 hb5 HM hFo hFc
        go_wp2_with fail
        refine (zznext_any F src _ _ H5.out (by omega)).mono ?_
        rintro e w6 ⟨rfl, hs6, hb6⟩
        have HZ := Lib.hid (comBlk_any F src _ 0 (src.length) _ w6 hs6 HNA.out.2.2.1 HNA.out.2.1 hz0 (by simpa using hz1) (by omega) HBC.out (by omega))
        have H6 := Lib.hid hs6
        have B6 := Lib.hid (B5.out.trans (hb6.mono hFB))
        clear hs6 hb6 H5 B5
        go_wp2_with fail
        refine (zzcom_any F src _ (src.length) _ _ HZ.out).mono ?_
        rintro e w7 ⟨t7, rfl, _, ht7, _, hs7, hb7⟩
        have hB7 : Below w3.heap.size w3 w7 := B6.out.trans (hb7.mono hFB)
        have hcv := run_txt (strip (cut src 0 (src.length)) true) gw 0 capw w7 (fun i hi => (hB7.cell (p := ⟨gw, 0 + i, none⟩) HGW.out).trans (HCW.out i hi))
        have to7 : ((t7.off : Int) == (src.length : Int)) = true := by rw [ht7]; simp
        have H7 := Lib.hid hs7
        have B7 := Lib.hid (HBW.out.trans (hB7.mono (by have := HSZ.out; omega)))
        clear hs7 hb7 hB7 ht7 HZ B6 H6
        go_wp2_with (go_at_call 13; refine (zzoff_any F src t7 _ H7.out).mono ?_; rintro e w' ⟨rfl, rfl⟩)
        go_ret
        exact ⟨rfl, B7.out⟩
  · by_cases hz1 : bt src 1 = 47
    rotate_left
    · have t4 : ((bt src 1 : Int) != 47) = true := by simp; omega
      have t5 : ((bt src 1 : Int) != 42) = true := by simp; omega
      go_enter Tryf.func6, Tryf.ntmps6
      go_wp2_with (go_at_call 25; refine (HB _).mono ?_; rintro e w2 ⟨rfl, rfl⟩)
      go_ret
      exact ⟨rfl, Below.refl _ _⟩
    have HZ01 := Lib.hid (And.intro hz0 hz1)
    rw [hz0] at q0
    rw [hz1] at q1
    clear hz0 hz1 t3
    go_enter Tryf.func6, Tryf.ntmps6
    go_wp2_with (go_at_call 25; refine (HB _).mono ?_; rintro e w2 ⟨rfl, rfl⟩)
    refine HC.out.mono ?_
    rintro e w1 ⟨oB, cap1, rfl, hcap1, hsrc1, _, hb1⟩
    obtain ⟨b, o, eo, hbb, hcc⟩ := hsrc1.at_ (by omega)
    subst eo
    have hsz1 := hb1.size
    have hbt : ∀ i, i < src.length → w1.cell? ⟨b, o + i, none⟩ = some (.int .u8 (bt src i : Int)) := by
      intro i hi
      rw [hcc i hi]
      simp [bt, hi, List.getD]
    have r1 : w1.cell? ⟨b, o + 1, none⟩ = some (.int .u8 47) := by
      rw [hbt 1 (by omega), HZ01.out.2]
      rfl
    have HT1 := Lib.hid (tabs_keep HT.out hg.1 hg.2 hb1.block)
    have HCC := Lib.hid hcc
    have HBT := Lib.hid hbt
    have B1 := Lib.hid hb1
    clear hsrc1 hb1 hcc hbt HC HT HB q0 q1
    go_wp2_with fail
    go_loopw [4, 6] (fun u v wr => ∃ i : Nat, u = .int .i64 (src.length : Int) ∧ 2 ≤ i ∧ i ≤ src.length ∧ (∀ x, 2 ≤ x → x < i → bt src x ≠ 10) ∧ v = .int .i64 i ∧ w1 = wr) (fun _ v _ => src.length - (intOf v).toNat)
    case atStart => exact ⟨2, rfl, Nat.le_refl _, by omega, fun x h1 h2 => by omega, rfl, rfl⟩
    case round =>
      obtain ⟨i, rfl, hi2, hin, hall, rfl, rfl⟩ := hrel
      obtain ⟨hz0, hz1⟩ := HZ01.out
      have HAL := Lib.hid hall
      clear hall r1
      by_cases hlt : i < src.length
      · have tl : decide ((i : Int) < (src.length : Int)) = true := by simpa using hlt
        have s1 := HBT.out i hlt
        by_cases h10 : bt src i = 10
        · have ta : ((bt src i : Int) == 10) = true := by simp [h10]
          have HLE : Hid (LcEnd src 0 i) := Lib.hid ⟨by omega, by omega, fun x x1 x2 => HAL.out x (by omega) x2, fun _ => h10⟩
          clear h10
          have hmk := fun W => mk0 (i) (by omega) W
          have hblk := Blk.new w1 5 (madeCells #[.int .u8 0] (i))
          have hown := own0 (B := w1.heap.size) hblk (Nat.le_refl _) (by omega)
          have hB4 : Below w1.heap.size w1 (w1.alloc (.cells (madeCells #[.int .u8 0] (i)) 5)) := (Below.refl _ _).alloc (Nat.le_refl _) _
          have O4 := Lib.hid hown
          have B4 := Lib.hid hB4
          clear hblk hown hB4
          go_wp2_with fail
          obtain ⟨Bw, hBw⟩ : ∃ Bw, w1.heap.size = Bw := ⟨_, rfl⟩
          rw [hBw] at O4 B4 ⊢
          have HBw := Lib.hid hBw
          clear hBw hmk
          obtain ⟨i0, hii, hy0, hy1, hy2⟩ := info_parts cl_info
          go_loopw [5, 7] (fun v u wq => ∃ (m g cq : Nat), m ≤ i ∧ u = .int .i64 m ∧ v = .slice (some ⟨g, 0, none⟩) (filt (src.take m)).length cq ∧ wq.ownsRow Bw 5 1 v (filt (src.take m)).length (u8c (filt (src.take m))) ∧ Below Bw w1 wq) (fun _ u _ => i - (intOf u).toNat)
          case atStart => exact ⟨0, Bw, i, Nat.zero_le _, rfl, by simp [filt], by simpa [filt] using O4.out, B4.out⟩
          case round =>
            obtain ⟨m, gw, capw, hm, rfl, rfl, hown, hbq⟩ := hrel
            have hfl := filt_len (src.take m)
            rw [List.length_take] at hfl
            have hgb := own_base8 hown
            have hszq : Bw ≤ wr.heap.size := by have := HBw.out; have := hbq.size; omega
            clear O4 B4
            by_cases hmk : m < i
            · have tm : decide ((m : Int) < (i : Int)) = true := by simp; omega
              have s1 : wr.cell? ⟨b, o + m, none⟩ = some (.int .u8 (bt src m : Int)) := by
                rw [hbq.cell (p := ⟨b, o + m, none⟩) (by rw [← HBw.out]; exact hbb), HBT.out m (by omega)]
              have hft := filt_take src m (by omega)
              have BQ := Lib.hid hbq
              clear hbq
              by_cases h13 : bt src m = 13
              · have t13 : ((bt src m : Int) != 13) = false := by simp [h13]
                rw [if_pos h13] at hft
                have HFT := Lib.hid hft
                have OQ := Lib.hid hown
                clear hft h13 hown
                go_wp2_with fail
                go_roundw
                case rel => exact ⟨m + 1, gw, capw, by omega, by go_num, by rw [HFT.out], by rw [HFT.out]; exact OQ.out, BQ.out⟩
                case measure => simp [intOf]; omega
              · have t13 : ((bt src m : Int) != 13) = true := by simp; omega
                rw [if_neg h13] at hft
                have hle : (filt (src.take (m + 1))).length = (filt (src.take m)).length + 1 := by rw [hft]; simp
                have hce : u8c (filt (src.take (m + 1))) = u8c (filt (src.take m)) ++ [.int .u8 (bt src m : Int)] := by rw [hft]; simp [u8c, bt]
                have HLE2 := Lib.hid hle
                have HCE2 := Lib.hid hce
                clear hft h13 hle hce
                generalize hLk : (filt (src.take m)).length = Lk at *
                generalize bt src m = z at *
                have HO2 := Lib.hid (hown.alloc (.cells #[.int .u8 (z : Int)] 5))
                have a1 : ∀ j u, [Value.int .u8 (z : Int)][j]? = some u → (wr.alloc (.cells #[.int .u8 (z : Int)] 5)).cell? ((⟨wr.heap.size, 0, none⟩ : Addr).add j) = some u := by
                  intro j u hj
                  have hj0 : j = 0 := by
                    rcases j with _ | j
                    · rfl
                    · simp at hj
                  subst hj0
                  have hu : Value.int .u8 (z : Int) = u := by simpa using hj
                  rw [← hu, show (⟨wr.heap.size, 0, none⟩ : Addr).add 0 = ⟨wr.heap.size, 0, none⟩ from rfl, (Blk.new wr _ _).cell]
                  rfl
                have a2 : ∀ u ∈ [Value.int .u8 (z : Int)], u.oneCell' = true := by
                  intro u hu
                  have hu2 : u = Value.int .u8 (z : Int) := by simpa using hu
                  rw [hu2]
                  rfl
                have A1 := Lib.hid a1
                have A2 := Lib.hid a2
                have hB1 : Bw ≤ (wr.alloc (.cells #[.int .u8 (z : Int)] 5)).heap.size := by simp; omega
                have HB1 := Lib.hid hB1
                have hm1 : Lk + 1 ≤ maxLen := by simp only [maxLen]; omega
                have HLk := Lib.hid hLk
                clear hown a1 a2 hB1 hLk
                go_wp2_with (at_builtin; (
                             refine wpList_append_own _ rfl (.tmp 69) (.tmp 74) 22 rfl Bw 5 i0 (.int .u8 0) 1 1 Tryf.underlying22 hii hy0 hy1 hy2 rfl (by decide) (.slice (some ⟨gw, 0, none⟩) Lk capw) Lk (u8c (filt (src.take m))) rfl HO2.out ⟨wr.heap.size, 0, none⟩ 1 1 [.int .u8 (z : Int)] rfl rfl A1.out A2.out hm1 (by omega) HB1.out ?_
                             intro v' w9 hown1 hgrow hiff
                             have HG := Lib.hid hgrow
                             have HW := Lib.hid hown1
                             clear hgrow hown1 hiff
                             refine Hid.out ?_))
                refine Lib.hid ?_
                have hown1 := HW.out
                have hgrow := HG.out
                obtain ⟨g2, cap2, hv2, hg2⟩ := own_shape8 hown1 (by omega)
                have hB5 : Below Bw wr w9 := ⟨hgrow.os, hgrow.tape, hgrow.output, by have := hgrow.size; simp at this; omega, fun j hj => (hgrow.block j (by simp; omega) (by have := hgb.1; simp [Value.ownBlock]; omega)).trans (Below.heap_alloc _ _ _ (by omega))⟩
                have B5 := Lib.hid (BQ.out.trans hB5)
                have HV := Lib.hid hv2
                rw [hv2]
                clear hown1 hgrow hB5 hv2
                go_wp2
                go_roundw
                case rel =>
                  refine ⟨m + 1, g2, cap2, by omega, by go_num, by rw [HLE2.out], ?_, B5.out⟩
                  have := HW.out
                  rw [HLE2.out, HCE2.out, ← HV.out]
                  exact this
                case measure => simp [intOf]; omega
            · obtain rfl : i = m := by omega
              have tm : decide ((i : Int) < (i : Int)) = false := by simp
              rw [← cut_take] at hown ⊢
              have HSR : Hid (SrcAt wr wr.heap.size (some ⟨b, o, none⟩) src) := Lib.hid (SrcAt.more (SrcAt.keep (w := w1) (B := w1.heap.size) (Or.inr ⟨b, o, rfl, hbb, HCC.out⟩) (by rw [HBw.out]; exact hbq.block)) (by rw [HBw.out]; exact hszq))
              have HTT := Lib.hid (tabs_keep (B := w1.heap.size) HT1.out (by have := hsz1; omega) (by have := hsz1; omega) (by rw [HBw.out]; exact hbq.block))
              have HSZ : Hid (w.heap.size ≤ wr.heap.size) := Lib.hid (by have := HBw.out; omega)
              have HGW := Lib.hid hgb.2
              have HCW := Lib.hid (own_at8 hown)
              have HBW := Lib.hid (B1.out.trans (hbq.mono (by rw [← HBw.out]; exact hsz1)))
              clear hown hbq hgb HT1
              have HM := Lib.hid (mk_any (some ⟨b, o, none⟩) cap1 src wr HSR.out HTT.out (by have := HSZ.out; omega) (by omega) hcap1)
              clear HTT
              go_wp2_with fail
              refine HM.out.mono ?_
              rintro e w5 ⟨F, rfl, hFB, hFo, hFc, hs5, hb5⟩
              have hna := nx_ascii (stNew_good src 0) (by rw [(stNew_ascii src (by omega) (by omega)).1]; omega) (by rw [(stNew_ascii src (by omega) (by omega)).1]; omega)
              rw [(stNew_ascii src (by omega) (by omega)).1] at hna
              have hec0 := (stNew_ascii src (by omega) (by omega)).2
              have hec1 := nx_ec src (stNew src 0)
              have HNA := Lib.hid hna
              have H5 := Lib.hid hs5
              have B5 := Lib.hid hb5
              clear hna hs5 hb5 HM hFo hFc
              go_wp2_with fail
              refine (zznext_any F src _ _ H5.out (by omega)).mono ?_
              rintro e w6 ⟨rfl, hs6, hb6⟩
              have HZ := Lib.hid (comLine_any F src _ 0 (i) w6 hs6 HNA.out.2.2.1 HNA.out.2.1 hz0 (by simpa using hz1) (by omega) HLE.out (by omega))
              have H6 := Lib.hid hs6
              have B6 := Lib.hid (B5.out.trans (hb6.mono hFB))
              clear hs6 hb6 H5 B5
              go_wp2_with fail
              refine (zzcom_any F src _ (i) _ _ HZ.out).mono ?_
              rintro e w7 ⟨t7, rfl, _, ht7, _, hs7, hb7⟩
              have hB7 : Below wr.heap.size wr w7 := B6.out.trans (hb7.mono hFB)
              have hcv := run_txt (filt (cut src 0 (i))) gw 0 capw w7 (fun i hi => (hB7.cell (p := ⟨gw, 0 + i, none⟩) HGW.out).trans (HCW.out i hi))
              have to7 : ((t7.off : Int) == (i : Int)) = true := by rw [ht7]; simp
              have H7 := Lib.hid hs7
              have B7 := Lib.hid (HBW.out.trans (hB7.mono (by have := HSZ.out; omega)))
              clear hs7 hb7 hB7 ht7 HZ B6 H6
              go_wp2_with (go_at_call 13; refine (zzoff_any F src t7 _ H7.out).mono ?_; rintro e w' ⟨rfl, rfl⟩)
              go_ret
              exact ⟨rfl, B7.out⟩
        · have ta : ((bt src i : Int) == 10) = false := by simp; omega
          have HN := Lib.hid h10
          clear h10
          go_wp2_with fail
          go_roundw
          case rel =>
            refine ⟨i + 1, rfl, by omega, by omega, fun x x1 x2 => ?_, by go_num, by simp⟩
            by_cases hx : x = i
            · rw [hx]
              exact HN.out
            · exact HAL.out x x1 (by omega)
          case measure => simp [intOf]; omega
      · obtain rfl : i = src.length := by omega
        have tl : decide ((src.length : Int) < (src.length : Int)) = false := by simp
        have HLE : Hid (LcEnd src 0 src.length) := Lib.hid ⟨by omega, by omega, fun x x1 x2 => HAL.out x (by omega) x2, fun h => by omega⟩
        clear hlt
        have hmk := fun W => mk0 (src.length) (by omega) W
        have hblk := Blk.new w1 5 (madeCells #[.int .u8 0] (src.length))
        have hown := own0 (B := w1.heap.size) hblk (Nat.le_refl _) (by omega)
        have hB4 : Below w1.heap.size w1 (w1.alloc (.cells (madeCells #[.int .u8 0] (src.length)) 5)) := (Below.refl _ _).alloc (Nat.le_refl _) _
        have O4 := Lib.hid hown
        have B4 := Lib.hid hB4
        clear hblk hown hB4
        go_wp2_with fail
        obtain ⟨Bw, hBw⟩ : ∃ Bw, w1.heap.size = Bw := ⟨_, rfl⟩
        rw [hBw] at O4 B4 ⊢
        have HBw := Lib.hid hBw
        clear hBw hmk
        obtain ⟨i0, hii, hy0, hy1, hy2⟩ := info_parts cl_info
        go_loopw [5, 7] (fun v u wq => ∃ (m g cq : Nat), m ≤ src.length ∧ u = .int .i64 m ∧ v = .slice (some ⟨g, 0, none⟩) (filt (src.take m)).length cq ∧ wq.ownsRow Bw 5 1 v (filt (src.take m)).length (u8c (filt (src.take m))) ∧ Below Bw w1 wq) (fun _ u _ => src.length - (intOf u).toNat)
        case atStart => exact ⟨0, Bw, src.length, Nat.zero_le _, rfl, by simp [filt], by simpa [filt] using O4.out, B4.out⟩
        case round =>
          obtain ⟨m, gw, capw, hm, rfl, rfl, hown, hbq⟩ := hrel
          have hfl := filt_len (src.take m)
          rw [List.length_take] at hfl
          have hgb := own_base8 hown
          have hszq : Bw ≤ wr.heap.size := by have := HBw.out; have := hbq.size; omega
          clear O4 B4
          by_cases hmk : m < src.length
          · have tm : decide ((m : Int) < (src.length : Int)) = true := by simp; omega
            have s1 : wr.cell? ⟨b, o + m, none⟩ = some (.int .u8 (bt src m : Int)) := by
              rw [hbq.cell (p := ⟨b, o + m, none⟩) (by rw [← HBw.out]; exact hbb), HBT.out m (by omega)]
            have hft := filt_take src m (by omega)
            have BQ := Lib.hid hbq
            clear hbq
            by_cases h13 : bt src m = 13
            · have t13 : ((bt src m : Int) != 13) = false := by simp [h13]
              rw [if_pos h13] at hft
              have HFT := Lib.hid hft
              have OQ := Lib.hid hown
              clear hft h13 hown
              go_wp2_with fail
              go_roundw
              case rel => exact ⟨m + 1, gw, capw, by omega, by go_num, by rw [HFT.out], by rw [HFT.out]; exact OQ.out, BQ.out⟩
              case measure => simp [intOf]; omega
            · have t13 : ((bt src m : Int) != 13) = true := by simp; omega
              rw [if_neg h13] at hft
              have hle : (filt (src.take (m + 1))).length = (filt (src.take m)).length + 1 := by rw [hft]; simp
              have hce : u8c (filt (src.take (m + 1))) = u8c (filt (src.take m)) ++ [.int .u8 (bt src m : Int)] := by rw [hft]; simp [u8c, bt]
              have HLE2 := Lib.hid hle
              have HCE2 := Lib.hid hce
              clear hft h13 hle hce
              generalize hLk : (filt (src.take m)).length = Lk at *
              generalize bt src m = z at *
              have HO2 := Lib.hid (hown.alloc (.cells #[.int .u8 (z : Int)] 5))
              have a1 : ∀ j u, [Value.int .u8 (z : Int)][j]? = some u → (wr.alloc (.cells #[.int .u8 (z : Int)] 5)).cell? ((⟨wr.heap.size, 0, none⟩ : Addr).add j) = some u := by
                intro j u hj
                have hj0 : j = 0 := by
                  rcases j with _ | j
                  · rfl
                  · simp at hj
                subst hj0
                have hu : Value.int .u8 (z : Int) = u := by simpa using hj
                rw [← hu, show (⟨wr.heap.size, 0, none⟩ : Addr).add 0 = ⟨wr.heap.size, 0, none⟩ from rfl, (Blk.new wr _ _).cell]
                rfl
              have a2 : ∀ u ∈ [Value.int .u8 (z : Int)], u.oneCell' = true := by
                intro u hu
                have hu2 : u = Value.int .u8 (z : Int) := by simpa using hu
                rw [hu2]
                rfl
              have A1 := Lib.hid a1
              have A2 := Lib.hid a2
              have hB1 : Bw ≤ (wr.alloc (.cells #[.int .u8 (z : Int)] 5)).heap.size := by simp; omega
              have HB1 := Lib.hid hB1
              have hm1 : Lk + 1 ≤ maxLen := by simp only [maxLen]; omega
              have HLk := Lib.hid hLk
              clear hown a1 a2 hB1 hLk
              go_wp2_with (at_builtin; (
                           refine wpList_append_own _ rfl (.tmp 69) (.tmp 74) 22 rfl Bw 5 i0 (.int .u8 0) 1 1 Tryf.underlying22 hii hy0 hy1 hy2 rfl (by decide) (.slice (some ⟨gw, 0, none⟩) Lk capw) Lk (u8c (filt (src.take m))) rfl HO2.out ⟨wr.heap.size, 0, none⟩ 1 1 [.int .u8 (z : Int)] rfl rfl A1.out A2.out hm1 (by omega) HB1.out ?_
                           intro v' w9 hown1 hgrow hiff
                           have HG := Lib.hid hgrow
                           have HW := Lib.hid hown1
                           clear hgrow hown1 hiff
                           refine Hid.out ?_))
              refine Lib.hid ?_
              have hown1 := HW.out
              have hgrow := HG.out
              obtain ⟨g2, cap2, hv2, hg2⟩ := own_shape8 hown1 (by omega)
              have hB5 : Below Bw wr w9 := ⟨hgrow.os, hgrow.tape, hgrow.output, by have := hgrow.size; simp at this; omega, fun j hj => (hgrow.block j (by simp; omega) (by have := hgb.1; simp [Value.ownBlock]; omega)).trans (Below.heap_alloc _ _ _ (by omega))⟩
              have B5 := Lib.hid (BQ.out.trans hB5)
              have HV := Lib.hid hv2
              rw [hv2]
              clear hown1 hgrow hB5 hv2
              go_wp2
              go_roundw
              case rel =>
                refine ⟨m + 1, g2, cap2, by omega, by go_num, by rw [HLE2.out], ?_, B5.out⟩
                have := HW.out
                rw [HLE2.out, HCE2.out, ← HV.out]
                exact this
              case measure => simp [intOf]; omega
          · obtain rfl : src.length = m := by omega
            have tm : decide ((src.length : Int) < (src.length : Int)) = false := by simp
            rw [← cut_take] at hown ⊢
            have HSR : Hid (SrcAt wr wr.heap.size (some ⟨b, o, none⟩) src) := Lib.hid (SrcAt.more (SrcAt.keep (w := w1) (B := w1.heap.size) (Or.inr ⟨b, o, rfl, hbb, HCC.out⟩) (by rw [HBw.out]; exact hbq.block)) (by rw [HBw.out]; exact hszq))
            have HTT := Lib.hid (tabs_keep (B := w1.heap.size) HT1.out (by have := hsz1; omega) (by have := hsz1; omega) (by rw [HBw.out]; exact hbq.block))
            have HSZ : Hid (w.heap.size ≤ wr.heap.size) := Lib.hid (by have := HBw.out; omega)
            have HGW := Lib.hid hgb.2
            have HCW := Lib.hid (own_at8 hown)
            have HBW := Lib.hid (B1.out.trans (hbq.mono (by rw [← HBw.out]; exact hsz1)))
            clear hown hbq hgb HT1
            have HM := Lib.hid (mk_any (some ⟨b, o, none⟩) cap1 src wr HSR.out HTT.out (by have := HSZ.out; omega) (by omega) hcap1)
            clear HTT
            go_wp2_with fail
            refine HM.out.mono ?_
            rintro e w5 ⟨F, rfl, hFB, hFo, hFc, hs5, hb5⟩
            have hna := nx_ascii (stNew_good src 0) (by rw [(stNew_ascii src (by omega) (by omega)).1]; omega) (by rw [(stNew_ascii src (by omega) (by omega)).1]; omega)
            rw [(stNew_ascii src (by omega) (by omega)).1] at hna
            have hec0 := (stNew_ascii src (by omega) (by omega)).2
            have hec1 := nx_ec src (stNew src 0)
            have HNA := Lib.hid hna
            have H5 := Lib.hid hs5
            have B5 := Lib.hid hb5
            clear hna hs5 hb5 HM hFo hFc
            go_wp2_with fail
            refine (zznext_any F src _ _ H5.out (by omega)).mono ?_
            rintro e w6 ⟨rfl, hs6, hb6⟩
            have HZ := Lib.hid (comLine_any F src _ 0 (src.length) w6 hs6 HNA.out.2.2.1 HNA.out.2.1 hz0 (by simpa using hz1) (by omega) HLE.out (by omega))
            have H6 := Lib.hid hs6
            have B6 := Lib.hid (B5.out.trans (hb6.mono hFB))
            clear hs6 hb6 H5 B5
            go_wp2_with fail
            refine (zzcom_any F src _ (src.length) _ _ HZ.out).mono ?_
            rintro e w7 ⟨t7, rfl, _, ht7, _, hs7, hb7⟩
            have hB7 : Below wr.heap.size wr w7 := B6.out.trans (hb7.mono hFB)
            have hcv := run_txt (filt (cut src 0 (src.length))) gw 0 capw w7 (fun i hi => (hB7.cell (p := ⟨gw, 0 + i, none⟩) HGW.out).trans (HCW.out i hi))
            have to7 : ((t7.off : Int) == (src.length : Int)) = true := by rw [ht7]; simp
            have H7 := Lib.hid hs7
            have B7 := Lib.hid (HBW.out.trans (hB7.mono (by have := HSZ.out; omega)))
            clear hs7 hb7 hB7 ht7 HZ B6 H6
            go_wp2_with (go_at_call 13; refine (zzoff_any F src t7 _ H7.out).mono ?_; rintro e w' ⟨rfl, rfl⟩)
            go_ret
            exact ⟨rfl, B7.out⟩

end Go.Proofs.YthhmkkpginddbaaFmt
