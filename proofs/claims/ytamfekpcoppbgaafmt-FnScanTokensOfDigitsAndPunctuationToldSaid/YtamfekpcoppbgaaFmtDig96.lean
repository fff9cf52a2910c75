/-
  FnScanTokensOfDigitsAndPunctuation, walked. Conditions: none (beyond 65536 bytes the law says true at once).
-/
import Derived.Test.YtamfekpcoppbgaaFmtDigT
import Derived.Test.YtamfekpcoppbgaaFmtEcn
import Derived.Test.YtamfekpcoppbgaaFmtTerm96
namespace Go.Proofs.YtamfekpcoppbgaaFmt
open Go.RowKit
set_option maxRecDepth 100000
set_option linter.unusedVariables false

theorem MTok.le5 {src : List UInt8} {i : Nat} {ins : Bool} {k : Nat} {l : List UInt8} {o j : Nat} {b : Bool} (h : MTok src i ins k l o j b) : k ≤ 5 := by
  cases h <;> omega
theorem mall_pos {src : List UInt8} {i : Nat} {ins : Bool} {T : Tks} (h : MAll src i ins T) : 0 < T.length := by
  cases h <;> simp
theorem mall_at {src : List UInt8} {i : Nat} {ins : Bool} {T : Tks} {k : Nat} (h : MAll src i ins (T.drop k)) : ∃ kk ll oo j b, MTok src i ins kk ll oo j b ∧ T[k]? = some (kk, ll, oo) ∧ (kk = 5 → k + 1 = T.length) ∧ (kk ≠ 5 → k + 1 < T.length ∧ MAll src j b (T.drop (k + 1))) := by
  have hlt : k < T.length := by
    have := mall_pos h
    rw [List.length_drop] at this
    omega
  have hd : T.drop k = T[k] :: T.drop (k + 1) := List.drop_eq_getElem_cons hlt
  have hg : T[k]? = some T[k] := List.getElem?_eq_getElem hlt
  rw [hd] at h
  rw [hg]
  generalize T[k] = x at h
  have hl : (T.drop (k + 1)).length = T.length - (k + 1) := List.length_drop
  generalize T.drop (k + 1) = R at h hl
  cases h with
  | @last _ _ l o j b ht => exact ⟨5, l, o, j, b, ht, rfl, fun _ => by simp at hl; omega, fun h => absurd rfl h⟩
  | @more _ _ kk l o j b _ ht h5 hr =>
    have := mall_pos hr
    exact ⟨kk, l, o, j, b, ht, rfl, fun h => absurd h h5, fun _ => ⟨by omega, hr⟩⟩
theorem dp_new {src : List UInt8} (hD : DpS src) : Dpk src 0 (stNew src 0) ∧ (stNew src 0).off = 0 ∧ (stNew src 0).semi = false := by
  have hch : (nx src (st0 0)).ch ≠ 65279 := by
    unfold nx
    split
    · rename_i h
      have h0 : (st0 0).rd = 0 := rfl
      rw [h0] at h
      have hb := dpB_lt (hD 0 h)
      have e := (rn_facts src 0 h).2.2.2.2.2 (by omega)
      show ((rn src (st0 0).rd).1 : Int) ≠ 65279
      rw [h0, e]
      show ((bt src 0 : Nat) : Int) ≠ 65279
      omega
    · show (-1 : Int) ≠ 65279
      decide
  have e : stNew src 0 = nx src (st0 0) := by
    unfold stNew
    rw [if_neg hch]
  refine ⟨⟨stNew_good src 0, by rw [e, dp_ec hD]; rfl, stNew_mode src 0⟩, ?_, stNew_semi src 0⟩
  rw [e]
  unfold nx
  split
  · rfl
  · rename_i h
    show src.length = 0
    have h0 : (st0 0).rd = 0 := rfl
    rw [h0] at h
    omega

set_option maxHeartbeats 400000 in
theorem bytes_dig (oA : Option Addr) (n cap : Nat) (w : World) (hn : n ≤ 9223372036854775807) :
    Calls Tryf.prog 13 #[.slice oA n cap] w fun e w' => e = .returned (.bool (decide (n ≤ 1048576))) ∧ w = w' := by
  by_cases h : n ≤ 1048576
  · have t0 : decide ((n : Int) > 1048576) = false := by simp; omega
    have e0 : decide (n ≤ 1048576) = true := by simpa using h
    rw [e0]
    go_enter Tryf.func13, Tryf.ntmps13
    go_wp2
    go_ret
    exact ⟨rfl, rfl⟩
  · have t0 : decide ((n : Int) > 1048576) = true := by simp; omega
    have e0 : decide (n ≤ 1048576) = false := by simpa using h
    rw [e0]
    go_enter Tryf.func13, Tryf.ntmps13
    go_wp2
    go_ret
    exact ⟨rfl, rfl⟩

set_option maxHeartbeats 8000000 in
theorem dig_law (oA : Option Addr) (cap : Nat) (src : List UInt8) (w : World) (hcap : src.length ≤ cap) (hmax : cap ≤ maxLen) (hsrc : SrcAt w w.heap.size oA src) (hnil : oA = none → src = [] ∧ cap = 0)
    (htab : Lib.Utf8Tabs 4 5 w) (hg : 4 < w.heap.size ∧ 5 < w.heap.size) (hLT : LetterTabs w) (hDT : Lib.RVar 3 Lib.digitT w) (hTk : TokCells w) (I : Go.Stop.Interp) (hI : I.answers w.tape) :
    Calls Tryf.prog 4 #[.slice oA src.length cap] w fun e w' => e = .returned (.bool true) ∧ Below w.heap.size w w' := by
  have hlen : src.length ≤ 9223372036854775807 := by simp only [maxLen] at hmax; omega
  have HB := fun W => bytes_dig oA src.length cap W hlen
  by_cases hbig : src.length ≤ 65536
  rotate_left
  · have t1 : decide ((src.length : Int) > 65536) = true := by simp; omega
    clear hsrc htab hLT hDT hTk hI
    go_enter Tryf.func4, Tryf.ntmps4
    by_cases h2 : src.length ≤ 1048576
    · have e0 : decide (src.length ≤ 1048576) = true := by simpa using h2
      rw [e0] at HB
      clear e0 h2 hbig
      go_wp2_with (go_at_call 13; refine (HB _).mono ?_; rintro e w2 ⟨rfl, rfl⟩)
      go_ret
      exact ⟨rfl, Below.refl _ _⟩
    · have e0 : decide (src.length ≤ 1048576) = false := by simpa using h2
      rw [e0] at HB
      clear e0 h2 hbig
      go_wp2_with (go_at_call 13; refine (HB _).mono ?_; rintro e w2 ⟨rfl, rfl⟩)
      go_ret
      exact ⟨rfl, Below.refl _ _⟩
  have e0 : decide (src.length ≤ 1048576) = true := by simp; omega
  rw [e0] at HB
  clear e0
  have t1 : decide ((src.length : Int) > 65536) = false := by simp; omega
  have HO := Lib.hid (zzodp_any oA cap src w hsrc (by omega))
  have HC := Lib.hid (clone_any oA cap src w hsrc hnil (by omega))
  have HT := Lib.hid htab
  have HLT := Lib.hid hLT
  have HDT := Lib.hid hDT
  have HTK := Lib.hid hTk
  have HII := Lib.hid hI
  clear hsrc htab hnil hLT hDT hTk hI
  go_enter Tryf.func4, Tryf.ntmps4
  go_wp2_with (go_at_call 13; refine (HB _).mono ?_; rintro e w2 ⟨rfl, rfl⟩)
  refine HO.out.mono ?_
  rintro e wb ⟨b, rfl, hD, rfl⟩
  rcases b with _ | _
  · clear hD HC HT HLT HDT HTK HII HB
    go_wp2_with fail
    go_ret
    exact ⟨rfl, Below.refl _ _⟩
  have HD := Lib.hid (hD rfl)
  clear hD HO HB
  go_wp2_with fail
  refine HC.out.mono ?_
  rintro e wc ⟨oB, cap1, rfl, hcap1, hsrcc, _, hbc⟩
  have hszc := hbc.size
  have htabc := tabs_keep HT.out hg.1 hg.2 hbc.block
  have HM0 := Lib.hid (toks_any oB cap1 src wc hsrcc HD.out hbig hcap1)
  have HSR := Lib.hid hsrcc
  have HTB := Lib.hid htabc
  have BC := Lib.hid hbc
  clear hsrcc htabc hbc HC HT t1
  go_wp2_with fail
  refine HM0.out.mono ?_
  rintro e w1 ⟨g6, c6, g7, c7, g8, c8, n, T, rfl, ⟨hTn, hr3⟩, hall, hn2, hb1c⟩
  have hsz1c := hb1c.size
  have hsrc1 : SrcAt w1 w1.heap.size oB src := (HSR.out.keep hb1c.block).more (by omega)
  have htab1 := tabs_keep HTB.out (Nat.lt_of_lt_of_le hg.1 hszc) (Nat.lt_of_lt_of_le hg.2 hszc) hb1c.block
  have hb1 : Below w.heap.size w w1 := BC.out.trans (hb1c.mono hszc)
  have hsz1 := hb1.size
  have HM := Lib.hid (mkS_any oB cap1 src w1 hsrc1 htab1 (by omega) (by omega) hcap1)
  have B1 := Lib.hid hb1
  have HR3 := Lib.hid hr3
  have HTN := Lib.hid hTn
  have HALL := Lib.hid hall
  clear hsrc1 htab1 hb1 hb1c hr3 hTn hall HM0 HSR HTB BC
  go_wp2_with fail
  refine HM.out.mono ?_
  rintro e w2 ⟨F, W0, rfl, hFB, hFo, hFc, hbase, hw0, hsz0, hbw, hs2, hb2⟩
  subst hFo hFc
  have hB2 : Below w1.heap.size w1 w2 := hb2
  have hW0 : Below w.heap.size w W0 := B1.out.trans (hw0.mono hsz1)
  have HSCAN : Hid (∀ (s : St) (W : World), SC F src s W → Below F.B W0 W → Good src s → s.ec ≤ 80000000000 → Calls Tryf.prog 11 #[.pointer (some ⟨F.gS, 0, none⟩)] W (StepPost F src s W)) := Lib.hid (by
    intro s W h hb hgd hec
    have hE : Env F W0 := ⟨hsz0, ⟨TabIs_below (g := 1) (by kernel_rfl) HLT.out.prop hW0, RVar_below HLT.out.letter hW0⟩, RVar_below HDT.out hW0⟩
    have hK : TokCells W0 := tok_belowW HTK.out hW0
    have hI0 : I.answers W0.tape := by rw [hW0.tape]; exact HII.out
    have hp := pot_le (src := src) s
    refine (scan_any F src W0 hE I hI0 hK (by rw [hbase]; omega) (s.ec + 3 * src.length + 2) (by omega) _ s W (Nat.le_refl _) hb h hgd hp).mono ?_
    rintro e w' ⟨k, l, o, v, hr, rfl, hs, hb'⟩
    exact ⟨k, l, o, v, hr, by rw [hbase]; rfl, hs, hb'⟩)
  have H2 := Lib.hid hs2
  have B2 := Lib.hid hB2
  have BW2 := Lib.hid hbw
  clear hs2 hb2 hB2 HM hw0 hsz0 hbw hW0 HLT HDT HTK HII
  obtain ⟨lv, hfl, _⟩ := H2.out.file
  have cb : w2.cell? ⟨F.gF, 2, none⟩ = some (.int .i64 1) := by rw [hfl.cell]; show some (Value.int .i64 (F.fx.base : Int)) = _; rw [hbase]; rfl
  clear hfl hbase
  go_wp2_with fail
  clear cb
  go_loopw [9] (fun v9 wr => ∃ (k : Nat) (s : St), v9 = .int .i64 (k : Int) ∧ k ≤ n ∧ Dpk src 0 s ∧ (k < n → MAll src s.off s.semi (T.drop k)) ∧ (k = n → s.ch = -1 ∧ s.semi = false) ∧ SC F src s wr ∧ Below F.B W0 wr ∧ Below w1.heap.size w1 wr) (fun v9 _ => n - (intOf v9).toNat)
  case atStart =>
    have hd := dp_new HD.out
    refine ⟨0, stNew src 0, rfl, Nat.zero_le _, hd.1, fun _ => ?_, fun h => ?_, H2.out, BW2.out, B2.out⟩
    · rw [hd.2.1, hd.2.2]
      exact HALL.out
    · have := mall_pos HALL.out
      have := HTN.out
      omega
  case round =>
    obtain ⟨k, s, rfl, hk, hdk, hma, hme, hs, hbw, hb⟩ := hrel
    have HSC := Lib.hid (HSCAN.out s wr hs hbw hdk.good (by rw [hdk.ec]; omega))
    have HDK := Lib.hid hdk
    have HBW := Lib.hid hbw
    have HBB := Lib.hid hb
    have HMA := Lib.hid hma
    have HME := Lib.hid hme
    clear hs hbw hb hdk hma hme H2 B2 BW2
    by_cases hkn : k < n
    · have tl : decide ((k : Int) < (n : Int)) = true := decide_eq_true (by omega)
      obtain ⟨kk, ll, oo, j, b, hmt, hat, h5, h6⟩ := mall_at (HMA.out hkn)
      rw [HTN.out] at h5 h6
      have hk5 := hmt.le5
      have HMT := Lib.hid hmt
      have HAT := Lib.hid hat
      have H56 := Lib.hid (And.intro h5 h6)
      clear hmt hat h5 h6
      go_wp2_with (go_at_call 11; refine Hid.out ?_)
      refine Lib.hid ?_
      refine HSC.out.mono ?_
      rintro e w4 ⟨k4, l4, o4, v, hr, rfl, hs4, hb4⟩
      obtain ⟨n', j', b', ht, hk4, hvo, hvs, hdv⟩ := scan_dp HD.out hr HDK.out
      obtain ⟨rfl, rfl, rfl, rfl, rfl⟩ := ht.det HMT.out
      subst hk4
      have hb14 : Below w1.heap.size w1 w4 := HBB.out.trans (hb4.mono hFB)
      have d6 : w4.cell? ⟨g6, k, none⟩ = some (.int .i64 (n' : Int)) := (hb14.cell (p := ⟨g6, k, none⟩) HR3.out.k.lt).trans (HR3.out.k.at_ k _ (by simp [kC, HAT.out]))
      have d7 : w4.cell? ⟨g7, k, none⟩ = some (.string ⟨l4.toArray⟩) := (hb14.cell (p := ⟨g7, k, none⟩) HR3.out.l.lt).trans (HR3.out.l.at_ k _ (by simp [lC, HAT.out]))
      have d8 : w4.cell? ⟨g8, k, none⟩ = some (.int .i64 (o4 : Int)) := (hb14.cell (p := ⟨g8, k, none⟩) HR3.out.o.lt).trans (HR3.out.o.at_ k _ (by simp [oC, HAT.out]))
      have HTO := Lib.hid (fun W => zztok_any n' hk5 W)
      have HNX : Hid ((k + 1 < n → MAll src v.off v.semi (T.drop (k + 1))) ∧ (k + 1 = n → v.ch = -1 ∧ v.semi = false)) := Lib.hid (by
        refine ⟨fun h => ?_, fun h => ?_⟩
        · rw [hvo, hvs]
          exact (H56.out.2 (fun e => by have := H56.out.1 e; omega)).2
        · have e5 : n' = 5 := by
            by_cases e : n' = 5
            · exact e
            · have := (H56.out.2 e).1
              omega
          have := (hr.f HDK.out.good).eof (by rw [e5]; rfl)
          exact ⟨this.2.2.1, this.2.2.2⟩)
      have hle4 := (hr.f HDK.out.good).le
      have HDV := Lib.hid hdv
      have S4 := Lib.hid hs4
      have BW4 := Lib.hid (HBW.out.trans hb4)
      have B4 := Lib.hid hb14
      obtain ⟨z, hz⟩ : ∃ z, tokOf n' = z := ⟨_, rfl⟩
      rw [hz] at HTO
      rw [hz]
      clear hr hs4 hb4 ht hvo hvs hdv hb14 HSC hz
      go_wp2_with (go_at_call 16; refine (HTO.out _).mono ?_; rintro e w' ⟨rfl, rfl⟩)
      go_roundw
      case rel => exact ⟨k + 1, v, by go_num, by omega, HDV.out, HNX.out.1, HNX.out.2, S4.out, BW4.out, B4.out⟩
      case measure => simp [intOf]; omega
    · obtain rfl : k = n := by omega
      have tl : decide ((k : Int) < (k : Int)) = false := by simp
      obtain ⟨hch, hse⟩ := HME.out rfl
      have HCH := Lib.hid hch
      have HSE := Lib.hid hse
      clear hch hse
      go_wp2_with (go_at_call 11; refine Hid.out ?_)
      refine Lib.hid ?_
      refine HSC.out.mono ?_
      rintro e w5 ⟨k5, l5, o5, v5, hr5, rfl, hs5, hb5⟩
      obtain ⟨rfl, rfl, rfl, _, _⟩ := hr5.again HDK.out.good HCH.out HSE.out
      obtain ⟨_, _, _, _, _, _, _, hd5⟩ := scan_dp HD.out hr5 HDK.out
      have HEC := Lib.hid (ecount_any F src v5 w5 hs5)
      rw [hd5.ec] at HEC
      have B5 := Lib.hid (B1.out.trans ((HBB.out.trans (hb5.mono hFB)).mono hsz1))
      clear hr5 hs5 hb5 hd5 HSC
      go_wp2_with (go_at_call 17; refine HEC.out.mono ?_; rintro e w' ⟨rfl, rfl⟩)
      go_ret
      exact ⟨by first | rfl | simp, B5.out⟩
end Go.Proofs.YtamfekpcoppbgaaFmt
