/-
  FnScanRawStringAsciiErrorIffUnclosed, walked. Conditions: none (beyond 65536 bytes the law says true at once).
-/
import Derived.Test.YtioikpfebdnndaaFmtLead114
import Derived.Test.YtioikpfebdnndaaFmtRaw
import Derived.Test.YtioikpfebdnndaaFmtClone114
namespace Go.Proofs.YtioikpfebdnndaaFmt
open Go.RowKit
set_option maxRecDepth 100000
set_option linter.unusedVariables false

set_option maxHeartbeats 400000 in
theorem bytes_raw (o0 : Option Addr) (n0 cap0 : Nat) (w : World) (h0 : n0 ≤ 9223372036854775807) :
    Calls Tryf.prog 6 #[.slice o0 n0 cap0] w fun e w' => e = .returned (.bool (decide (n0 ≤ 1048576))) ∧ w = w' := by
  go_enter Tryf.func6, Tryf.ntmps6
  go_wp2
  all_goals (go_ret; first | exact ⟨ret_t (by omega), rfl⟩ | exact ⟨ret_f (by omega), rfl⟩)

theorem stNew_ec0 (src : List UInt8) (hn : 0 < src.length) (ha : bt src 0 < 128) (hz : bt src 0 ≠ 0) : (stNew src 0).ec = 0 := by
  have hw := (rn_facts src 0 hn).2.2.2.2.2 ha
  have hr : (st0 0).rd < src.length := hn
  have e : nx src (st0 0) = { nl src.length (st0 0).rd (st0 0) with off := (st0 0).rd, rd := (st0 0).rd + (rn src (st0 0).rd).2, ch := ((rn src (st0 0).rd).1 : Int), ec := (st0 0).ec + (if badc src (st0 0).rd then 1 else 0) } := by
    unfold nx
    rw [if_pos hr]
  have hch : (nx src (st0 0)).ch = (bt src 0 : Int) := by
    rw [e]
    show ((rn src 0).1 : Int) = _
    rw [hw]
  have es : stNew src 0 = nx src (st0 0) := by
    unfold stNew
    rw [if_neg (by rw [hch]; omega)]
  rw [es, e]
  show 0 + (if badc src 0 = true then 1 else 0) = 0
  have hb : badc src 0 = false := by
    unfold badc
    rw [hw]
    simp
    omega
  rw [hb]
  rfl
/-- a raw string over plain ASCII -/
theorem raw_ascii {src : List UInt8} {s t : St} {b : Bool} (h : RawR src s t b) : Good src s → (∀ i, s.off ≤ i → i < src.length → 0 < bt src i ∧ bt src i < 128) → t.ec = s.ec ∧ (b = true ↔ ∃ i, s.off ≤ i ∧ i < src.length ∧ bt src i = 96) := by
  induction h with
  | @eof s hc =>
    intro hg ha
    refine ⟨rfl, (fun h => nomatch h), ?_⟩
    rintro ⟨i, i1, i2, i3⟩
    rcases hg with ⟨g1, g2, g3⟩ | ⟨g1, g2, g3⟩
    · omega
    · omega
  | @shut s hc =>
    intro hg ha
    obtain ⟨h1, h2⟩ := (hg.ascii 96 (by decide)).1 hc
    obtain ⟨n1, n2, n3, n4, n5⟩ := nx_ascii hg h1 (by omega)
    refine ⟨?_, fun _ => ⟨s.off, Nat.le_refl _, h1, h2⟩, fun _ => rfl⟩
    by_cases hl : s.off + 1 < src.length
    · have := ha (s.off + 1) (by omega) hl
      rw [n4 hl this.2, if_neg (by omega)]
      rfl
    · exact n5 hl
  | @step s t b h0 h96 hr ih =>
    intro hg ha
    have st := step_of hg h0
    have hb := ha s.off (Nat.le_refl _) st.lt
    obtain ⟨n1, n2, n3, n4, n5⟩ := nx_ascii hg st.lt hb.2
    obtain ⟨i1, i2⟩ := ih n3 (fun i h1 h2 => ha i (by omega) h2)
    have hec : (nx src s).ec = s.ec := by
      by_cases hl : s.off + 1 < src.length
      · have := ha (s.off + 1) (by omega) hl
        rw [n4 hl this.2, if_neg (by omega)]
        rfl
      · exact n5 hl
    refine ⟨by omega, i2.trans ⟨?_, ?_⟩⟩
    · rintro ⟨i, a1, a2, a3⟩
      exact ⟨i, by omega, a2, a3⟩
    · rintro ⟨i, a1, a2, a3⟩
      refine ⟨i, ?_, a2, a3⟩
      rcases Nat.lt_or_ge s.off i with hi | hi
      · omega
      · have : i = s.off := by omega
        subst this
        omega
set_option maxHeartbeats 400000 in
theorem zzraw_any (Fx : Fix) (src : List UInt8) (s : St) (w : World) (h : Calls Tryf.prog 28 #[.pointer (some ⟨Fx.gS, 0, none⟩)] w (RawPost Fx src s w)) :
    Calls Tryf.prog 11 #[.pointer (some ⟨Fx.gS, 0, none⟩)] w (RawPost Fx src s w) := by
  have HC := Lib.hid h
  clear h
  go_enter Tryf.func11, Tryf.ntmps11
  go_wp2_with fail
  refine HC.out.mono ?_
  rintro e w2 ⟨t, b, h1, h2, rfl, h4, h5⟩
  have H := Lib.hid (And.intro h1 (And.intro h2 (And.intro h4 h5)))
  clear h1 h2 h4 h5
  go_wp2
  go_ret
  exact ⟨t, b, H.out.1, H.out.2.1, rfl, H.out.2.2.1, H.out.2.2.2⟩
def RawEndPost (src : List UInt8) (w : World) (e : Ending) (w' : World) : Prop :=
  ∃ (n : Int) (c : Bool), e = .returned (.tuple #[.int .i64 n, .bool c]) ∧ (c = true ↔ ∃ i, 1 ≤ i ∧ i < src.length ∧ bt src i = 96) ∧ w = w'
set_option maxHeartbeats 1000000 in
theorem rawEnd_any (b o cap : Nat) (src : List UInt8) (w : World) (hn : src.length ≤ 1048576) (hp : 1 ≤ src.length) (hc : ∀ i (h : i < src.length), w.cell? ⟨b, o + i, none⟩ = some (.int .u8 (src[i].toNat : Int))) :
    Calls Tryf.prog 12 #[.slice (some ⟨b, o, none⟩) src.length cap] w (RawEndPost src w) := by
  have HC := Lib.hid hc
  clear hc
  go_enter Tryf.func12, Tryf.ntmps12
  go_wp2_with fail
  go_loopw [4] (fun i wr => ∃ k : Nat, i = .int .i64 k ∧ 1 ≤ k ∧ k ≤ src.length ∧ (∀ j, 1 ≤ j → j < k → bt src j ≠ 96) ∧ w = wr) (fun i _ => src.length - (intOf i).toNat)
  case atStart => exact ⟨1, rfl, Nat.le_refl _, hp, fun j h1 h2 => by omega, rfl⟩
  case round =>
    obtain ⟨k, rfl, hk1, hk, hall, rfl⟩ := hrel
    have HAL := Lib.hid hall
    clear hall
    by_cases hlt : k < src.length
    · have c1 : w.cell? ⟨b, o + k, none⟩ = some (.int .u8 (bt src k : Int)) := by
        rw [HC.out k hlt]
        simp [bt, List.getD, hlt]
      have tl : decide ((k : Int) < (src.length : Int)) = true := by simp; omega
      by_cases h96 : bt src k = 96
      · have t1 : ((bt src k : Int) == 96) = true := by simp [h96]
        have HX : Hid (∃ i, 1 ≤ i ∧ i < src.length ∧ bt src i = 96) := Lib.hid ⟨k, hk1, hlt, h96⟩
        clear h96
        go_wp2_with fail
        go_ret2
        exact ⟨_, true, rfl, ⟨fun _ => HX.out, fun _ => rfl⟩, rfl⟩
      · have t1 : ((bt src k : Int) == 96) = false := by simp; omega
        have H96 := Lib.hid h96
        clear h96
        go_wp2_with fail
        go_roundw
        case rel =>
          refine ⟨k + 1, by go_num, by omega, by omega, fun j j1 j2 => ?_, by simp⟩
          by_cases hj : j = k
          · rw [hj]
            exact H96.out
          · exact HAL.out j j1 (by omega)
        case measure => simp [intOf]; omega
    · have tl : decide ((k : Int) < (src.length : Int)) = false := by simp; omega
      have HX : Hid (¬ ∃ i, 1 ≤ i ∧ i < src.length ∧ bt src i = 96) := Lib.hid (fun ⟨i, i1, i2, i3⟩ => absurd i3 (HAL.out i i1 (by omega)))
      go_wp2_with fail
      go_ret2
      exact ⟨_, false, rfl, ⟨(fun h => nomatch h), fun h => absurd h HX.out⟩, rfl⟩

set_option maxHeartbeats 4000000 in
theorem law_raw (oA : Option Addr) (cap : Nat) (l : List UInt8) (w : World) (hcap : l.length ≤ cap) (hmax : cap ≤ maxLen) (hsrc : SrcAt w w.heap.size oA l) (hnil : oA = none → l = [] ∧ cap = 0)
    (htab : Lib.Utf8Tabs 3 4 w) (hg : 3 < w.heap.size ∧ 4 < w.heap.size) :
    Calls Tryf.prog 3 #[.slice oA l.length cap] w fun e w' => e = .returned (.bool true) ∧ Below w.heap.size w w' := by
  have hlen : l.length ≤ 9223372036854775807 := by simp only [maxLen] at hmax; omega
  have HB := fun W => bytes_raw oA l.length cap W hlen
  by_cases hb20 : l.length ≤ 1048576
  rotate_left
  · rw [decide_eq_false hb20] at HB
    clear hsrc htab hb20
    go_enter Tryf.func3, Tryf.ntmps3
    go_wp2_with (go_at_call 6; refine (HB _).mono ?_; rintro e w2 ⟨rfl, rfl⟩)
    go_ret
    exact ⟨rfl, Below.refl _ _⟩
  rw [decide_eq_true hb20] at HB
  by_cases hb16 : l.length ≤ 65536
  rotate_left
  · have t1 : decide ((l.length : Int) > 65536) = true := by simp; omega
    clear hsrc htab hb20
    go_enter Tryf.func3, Tryf.ntmps3
    go_wp2_with (go_at_call 6; refine (HB _).mono ?_; rintro e w2 ⟨rfl, rfl⟩)
    go_ret
    exact ⟨rfl, Below.refl _ _⟩
  have t1 : decide ((l.length : Int) > 65536) = false := by simp; omega
  have HT := Lib.hid htab
  have HS := Lib.hid hsrc
  have HN := Lib.hid hnil
  clear htab hsrc hnil hb20
  go_enter Tryf.func3, Tryf.ntmps3
  go_wp2_with (go_at_call 6; refine (HB _).mono ?_; rintro e w2 ⟨rfl, rfl⟩)
  go_loopw [3] (fun i wr => ∃ k : Nat, i = .int .i64 k ∧ k ≤ l.length ∧ (∀ j, j < k → 0 < bt l j ∧ bt l j < 128) ∧ w = wr) (fun i _ => l.length - (intOf i).toNat)
  case atStart => exact ⟨0, rfl, Nat.zero_le _, fun j h1 => by omega, rfl⟩
  case round =>
    obtain ⟨k, rfl, hk, hall, rfl⟩ := hrel
    have HAL := Lib.hid hall
    clear hall HB
    by_cases hlt : k < l.length
    · obtain ⟨b, o, rfl, hbb, hcc⟩ := HS.out.at_ (by omega)
      have c1 : w.cell? ⟨b, o + k, none⟩ = some (.int .u8 (bt l k : Int)) := by
        rw [hcc k hlt]
        simp [bt, List.getD, hlt]
      have tl : decide ((k : Int) < (l.length : Int)) = true := by simp; omega
      have hbt := bt_lt l k
      clear hcc
      by_cases hz : bt l k = 0
      · have t2 : ((bt l k : Int) == 0) = true := by simp [hz]
        rw [hz] at c1
        clear hz t2 hbt
        go_wp2_with fail
        go_ret
        exact ⟨rfl, Below.refl _ _⟩
      · have t2 : ((bt l k : Int) == 0) = false := by simp; omega
        by_cases h128 : 128 ≤ bt l k
        · have t3 : decide ((bt l k : Int) ≥ 128) = true := by simp; omega
          go_wp2_with fail
          go_ret
          exact ⟨rfl, Below.refl _ _⟩
        · have t3 : decide ((bt l k : Int) ≥ 128) = false := by simp; omega
          have HX := Lib.hid (And.intro hz h128)
          clear hz h128
          go_wp2_with fail
          go_roundw
          case rel =>
            refine ⟨k + 1, by go_num, by omega, fun j j1 => ?_, by simp⟩
            by_cases hj : j = k
            · rw [hj]
              have := HX.out
              omega
            · exact HAL.out j (by omega)
          case measure => simp [intOf]; omega
    · obtain rfl : k = l.length := by omega
      have tl : decide ((l.length : Int) < (l.length : Int)) = false := by simp
      have HC := Lib.hid (clone_any oA cap l w HS.out HN.out (by omega))
      go_wp2_with fail
      refine HC.out.mono ?_
      rintro e w1 ⟨oB, cap1, rfl, hcap1, hsrc1, _, hb1⟩
      have hz1 := hb1.size
      have HLD := Lib.hid (lead_any 96 (by decide) oB cap1 l w1 hsrc1 (by omega))
      have T1 := Lib.hid (tabs_keep HT.out hg.1 hg.2 hb1.block)
      have B1 := Lib.hid hb1
      clear hsrc1 hb1 HC HS HN HT
      go_wp2_with fail
      refine HLD.out.mono ?_
      rintro e w2 ⟨gb, cp, rfl, hcp, hs2, hb2⟩
      have hz2 := hb2.size
      obtain ⟨src, hsrcd⟩ : ∃ src, src = UInt8.ofNat 96 :: l := ⟨_, rfl⟩
      rw [← hsrcd] at hs2
      have hlen2 : src.length = l.length + 1 := by rw [hsrcd]; rfl
      have hb0 : bt src 0 = 96 := by rw [hsrcd]; rfl
      have hbs : ∀ i, bt src (i + 1) = bt l i := fun i => by rw [hsrcd]; simp [bt, List.getD]
      have hasc : ∀ i, 1 ≤ i → i < src.length → 0 < bt src i ∧ bt src i < 128 := by
        intro i i1 i2
        obtain ⟨j, rfl⟩ : ∃ j, i = j + 1 := ⟨i - 1, by omega⟩
        rw [hbs]
        exact HAL.out j (by omega)
      rw [← hlen2] at hcp ⊢
      obtain ⟨b3, o3, eo3, hbb3, hcc3⟩ := hs2.at_ (by omega)
      injection eo3 with eo3
      injection eo3 with e1 e2
      subst e1 e2
      have HM := Lib.hid (mk_any (some ⟨gb, 0, none⟩) cp src w2 hs2 (tabs_keep T1.out (by omega) (by omega) hb2.block) (by omega) (by omega) hcp)
      have hle1 : src.length ≤ 65537 := by omega
      have hle2 : 1 ≤ src.length := by omega
      clear hlen2
      have HASC := Lib.hid hasc
      have B2 := Lib.hid (B1.out.trans (hb2.mono hz1))
      have HCC3 := Lib.hid hcc3
      have HB0 := Lib.hid hb0
      clear hs2 hb2 hcc3 HLD T1 B1 hbs hasc hsrcd HAL hb0
      go_wp2_with fail
      refine HM.out.mono ?_
      rintro e w3 ⟨Fx, rfl, hFB, hFo, hFc, hs3, hb3⟩
      have hst := stNew_ascii src (by omega) (by have := HB0.out; omega)
      have hec0 := stNew_ec0 src (by omega) (by have := HB0.out; omega) (by have := HB0.out; omega)
      obtain ⟨n1, n2, n3, n4, n5⟩ := nx_ascii (stNew_good src 0) (by omega) (by rw [hst.1]; have := HB0.out; omega)
      rw [hst.1] at n2 n4 n5
      have hec1 : (nx src (stNew src 0)).ec = 0 := by
        by_cases hl : 0 + 1 < src.length
        · have := HASC.out (0 + 1) (by omega) hl
          rw [n4 hl this.2, if_neg (by omega), hec0]
        · rw [n5 hl, hec0]
      have HST : Hid (Good src (nx src (stNew src 0)) ∧ (nx src (stNew src 0)).off = 1 ∧ (nx src (stNew src 0)).ec = 0) := Lib.hid ⟨n3, n2, hec1⟩
      have H3 := Lib.hid hs3
      have B3 := Lib.hid hb3
      have HE0 := Lib.hid hec0
      clear hst hec0 n1 n2 n3 n4 n5 hec1 hs3 hb3 HM hFo hFc
      go_wp2_with fail
      refine (zznext_any Fx src _ _ H3.out (by rw [HE0.out]; omega)).mono ?_
      rintro e w4 ⟨rfl, hs4, hb4⟩
      generalize nx src (stNew src 0) = s4 at *
      have H4 := Lib.hid hs4
      have B4 := Lib.hid (B3.out.trans (hb4.mono hFB))
      have HRW := Lib.hid (raw_any Fx src s4 w4 hs4 HST.out.1 (by rw [HST.out.2.1]; omega) (by rw [HST.out.2.1]; show bt src 0 ≠ 13; have := HB0.out; omega) (by rw [HST.out.2.2]; omega))
      clear hs4 hb4 B3
      go_wp2_with fail
      refine (zzraw_any Fx src s4 w4 HRW.out).mono ?_
      rintro e w5 ⟨t5, b5, hr5, hw5, rfl, hs5, hb5⟩
      have hra := raw_ascii hr5 HST.out.1 (fun i i1 i2 => HASC.out i (by rw [HST.out.2.1] at i1; exact i1) i2)
      rw [HST.out.2.1, HST.out.2.2] at hra
      have hbel5 : Below w2.heap.size w2 w5 := B4.out.trans (hb5.mono hFB)
      have HRE := Lib.hid (rawEnd_any gb 0 cp src w5 (by omega) (by omega) (fun i hi => (hbel5.cell (p := ⟨gb, 0 + i, none⟩) hbb3).trans (HCC3.out i hi)))
      have HRA := Lib.hid hra
      have H5 := Lib.hid hs5
      have B5 := Lib.hid (B2.out.trans (hbel5.mono (by omega)))
      clear hr5 hw5 hs5 hb5 hra hbel5 HRW B4 H4
      go_wp2_with fail
      refine HRE.out.mono ?_
      rintro e w6 ⟨n6, c6, rfl, hc6, rfl⟩
      have hcb : c6 = b5 := by
        rw [Bool.eq_iff_iff]
        exact hc6.trans HRA.out.2.symm
      subst hcb
      have he5 : (rawEnd t5 c6).ec = if c6 then 0 else 1 := by
        unfold rawEnd
        cases c6
        · show t5.ec + 1 = 1
          rw [HRA.out.1]
        · exact HRA.out.1
      have HEC := Lib.hid (errcount_any Fx src _ _ H5.out)
      rw [he5] at HEC
      clear hc6 HRE he5 HRA
      cases c6
      all_goals
        go_wp2_with (go_at_call 13; refine HEC.out.mono ?_; rintro e w' ⟨rfl, rfl⟩)
        go_ret
        exact ⟨rfl, B5.out⟩
end Go.Proofs.YtioikpfebdnndaaFmt
