/-
  FnBytesDecimalWidth, walked. Conditions: MaxStringLen reads as laid.
-/
import Derived.Test.YtohcajfgmgpoeaaDoorLaw97
import Derived.Test.YtohcajfgmgpoeaaDoorPad97
import Derived.Deep.DeepCutAuto
import Derived.Test.YtohcajfgmgpoeaaDoorStp97
namespace Go.Proofs.YtohcajfgmgpoeaaDoor
open Go.RowKit
set_option maxRecDepth 100000
set_option linter.unusedVariables false

set_option maxHeartbeats 400000 in
theorem bytes_wid (oA : Option Addr) (n cap : Nat) (vb wid prec : Int) (wp pp mi pl ze : Bool) (w : World) (h0 : n ≤ 9223372036854775807) :
    Calls Tryd.prog 10 #[.slice oA n cap, .int .i32 vb, .int .i64 wid, .bool wp, .int .i64 prec, .bool pp, .bool mi, .bool pl, .bool ze] w fun e w' => e = .returned (.bool (decide (n ≤ 1048576))) ∧ w = w' := by
  go_enter Tryd.func10, Tryd.ntmps10
  go_wp2
  all_goals (go_ret; first | exact ⟨ret_t (by omega), rfl⟩ | exact ⟨ret_f (by omega), rfl⟩)
theorem wp_hide {P : Program} {c : Code} {Q : Exit → Act → World → Prop} {a : Act} {w : World} (h : ∀ QQ : Exit → Act → World → Prop, Hid (∀ e a' w', Q e a' w' → QQ e a' w') → c.wp P QQ a w) : c.wp P Q a w := h Q (Lib.hid (fun _ _ _ h => h))
def sg (pl : Bool) : List UInt8 := if pl = true then [43] else []
set_option maxHeartbeats 16000000 in
theorem law_width (oA : Option Addr) (capA : Nat) (src : List UInt8) (vb wd : Int) (wp : Bool) (pd : Int) (pp mi pl ze : Bool) (w : World) (hcA : src.length ≤ capA) (hmA : capA ≤ maxLen) (hsA : SrcAt w w.heap.size oA src) (hnA : oA = none → src = [] ∧ capA = 0)
    (hw1 : -9223372036854775808 ≤ wd) (hw2 : wd ≤ 9223372036854775807) (hp1 : -9223372036854775808 ≤ pd) (hp2 : pd ≤ 9223372036854775807)
    (hm : MaxS w) (hg : 0 < w.heap.size) :
    Calls Tryd.prog 4 #[.slice oA src.length capA, .int .i32 vb, .int .i64 wd, .bool wp, .int .i64 pd, .bool pp, .bool mi, .bool pl, .bool ze] w fun e w' => e = .returned (.bool true) ∧ Below w.heap.size w w' := by
  have hlA : src.length ≤ 9223372036854775807 := by simp only [maxLen] at hmA; omega
  have HB := fun W => bytes_wid oA src.length capA vb wd pd wp pp mi pl ze W hlA
  have HSA := Lib.hid (And.intro hsA hnA)
  have HM := Lib.hid (And.intro hm hg)
  clear hsA hnA hm hg
  by_cases hbig : src.length ≤ 1048576
  rotate_left
  · rw [decide_eq_false hbig] at HB
    clear hbig
    go_enter Tryd.func4, Tryd.ntmps4
    go_wp2_with (go_at_call 10; refine (HB _).mono ?_; rintro e w2 ⟨rfl, rfl⟩)
    go_ret
    exact ⟨rfl, Below.refl _ _⟩
  rw [decide_eq_true hbig] at HB
  have hgt : (src.length : Int) ≤ 1048576 := by omega
  by_cases hwn : wd < 0
  · go_enter Tryd.func4, Tryd.ntmps4
    go_wp2_with (go_at_call 10; refine (HB _).mono ?_; rintro e w2 ⟨rfl, rfl⟩)
    go_ret
    exact ⟨rfl, Below.refl _ _⟩
  by_cases hwb : 65536 < wd
  · go_enter Tryd.func4, Tryd.ntmps4
    go_wp2_with (go_at_call 10; refine (HB _).mono ?_; rintro e w2 ⟨rfl, rfl⟩)
    go_ret
    exact ⟨rfl, Below.refl _ _⟩
  by_cases hpn : pd < 0
  · go_enter Tryd.func4, Tryd.ntmps4
    go_wp2_with (go_at_call 10; refine (HB _).mono ?_; rintro e w2 ⟨rfl, rfl⟩)
    go_ret
    exact ⟨rfl, Below.refl _ _⟩
  by_cases hpb : 65536 < pd
  · go_enter Tryd.func4, Tryd.ntmps4
    go_wp2_with (go_at_call 10; refine (HB _).mono ?_; rintro e w2 ⟨rfl, rfl⟩)
    go_ret
    exact ⟨rfl, Below.refl _ _⟩
  obtain ⟨wid, rfl⟩ : ∃ n : Nat, wd = (n : Int) := ⟨wd.toNat, by omega⟩
  obtain ⟨prec, rfl⟩ : ∃ n : Nat, pd = (n : Int) := ⟨pd.toNat, by omega⟩
  by_cases hq : (src.length : Int) ≤ 67108864 / ((wid : Int) + (prec : Int) + 8)
  rotate_left
  · go_enter Tryd.func4, Tryd.ntmps4
    go_wp2_with (go_at_call 10; refine (HB _).mono ?_; rintro e w2 ⟨rfl, rfl⟩)
    go_ret
    exact ⟨rfl, Below.refl _ _⟩
  have hsl : src.length * (wid + prec + 25) ≤ 2000000000 := by
    have h1 := Int.mul_le_of_le_ediv (by omega) hq
    have h2 : src.length * (wid + prec + 8) ≤ 67108864 := Int.ofNat_le.1 (by rw [Int.natCast_mul, Int.natCast_add, Int.natCast_add]; exact h1)
    have h3 : src.length * (wid + prec + 25) ≤ src.length * (4 * (wid + prec + 8)) := Nat.mul_le_mul_left _ (by omega)
    have h4 : src.length * (4 * (wid + prec + 8)) = 4 * (src.length * (wid + prec + 8)) := Nat.mul_left_comm _ _ _
    omega
  have HSL := Lib.hid hsl
  clear hsl
  by_cases g1 : wp = false ∧ ¬ wid = 0
  · obtain ⟨rfl, g1⟩ := g1
    go_enter Tryd.func4, Tryd.ntmps4
    go_wp2_with (go_at_call 10; refine (HB _).mono ?_; rintro e w2 ⟨rfl, rfl⟩)
    go_ret
    exact ⟨rfl, Below.refl _ _⟩
  have hw0 : wp = true ∨ (wp = false ∧ wid = 0) := by
    cases wp
    · exact Or.inr ⟨rfl, by simpa using g1⟩
    · exact Or.inl rfl
  have HW0 := Lib.hid hw0
  clear hw0 g1
  go_enter Tryd.func4, Tryd.ntmps4
  go_upto_region 11 with (go_at_call 10; refine (HB _).mono ?_; rintro e w2 ⟨rfl, rfl⟩)
  go_cut [58, 59, 60, 61, 62, 63] (fun v58 v59 v60 v61 v62 v63 wx => v63 = .bool false ∧ w = wx)
  case first =>
    rcases HW0.out with rfl | ⟨rfl, rfl⟩
    all_goals
      go_wp2_with fail
      go_meet
      exact ⟨rfl, rfl⟩
  case rest =>
    obtain ⟨rfl, rfl⟩ := hcut
    go_upto_region 13 with fail
    by_cases g2 : pp = false ∧ ¬ prec = 0
    · obtain ⟨rfl, g2⟩ := g2
      go_wp2_with fail
      go_ret
      exact ⟨rfl, Below.refl _ _⟩
    have hp0 : pp = true ∨ (pp = false ∧ prec = 0) := by
      cases pp
      · exact Or.inr ⟨rfl, by simpa using g2⟩
      · exact Or.inl rfl
    have HP0 := Lib.hid hp0
    clear hp0 g2
    go_cut [64, 65, 66, 67, 68, 69] (fun v64 v65 v66 v67 v68 v69 wx => v69 = .bool false ∧ w = wx)
    case first =>
      rcases HP0.out with rfl | ⟨rfl, rfl⟩
      all_goals
        go_wp2_with fail
        go_meet
        exact ⟨rfl, rfl⟩
    case rest =>
    obtain ⟨rfl, rfl⟩ := hcut
    go_upto_region 15 with fail
    by_cases g3 : ze = true ∧ mi = true
    · obtain ⟨rfl, rfl⟩ := g3
      go_wp2_with fail
      go_ret
      exact ⟨rfl, Below.refl _ _⟩
    have hz0 : ze = false ∨ (ze = true ∧ mi = false) := by
      cases ze <;> cases mi <;> simp_all
    have HZ0 := Lib.hid hz0
    clear hz0 g3
    go_cut [70, 71, 72, 73] (fun v70 v71 v72 v73 wx => v73 = .bool false ∧ w = wx)
    case first =>
      rcases HZ0.out with rfl | ⟨rfl, rfl⟩
      all_goals
        go_wp2_with fail
        go_meet
        exact ⟨rfl, rfl⟩
    case rest =>
    obtain ⟨rfl, rfl⟩ := hcut
    go_upto_region 17 with fail
    by_cases g4 : vb = 118 ∨ vb = 100
    rotate_left
    · have u1 : (vb != 118) = true := by simp; omega
      have u2 : (vb != 100) = true := by simp; omega
      have u3 : (vb == 118) = false := by simp; omega
      have u4 : (vb == 100) = false := by simp; omega
      clear g4
      go_wp2_with fail
      go_ret
      exact ⟨rfl, Below.refl _ _⟩
    have HV0 := Lib.hid g4
    clear g4
    go_cut [74, 75, 76, 77, 78, 79] (fun v74 v75 v76 v77 v78 v79 wx => v79 = .bool false ∧ w = wx)
    case first =>
      rcases HV0.out with rfl | rfl
      all_goals
        go_wp2_with fail
        go_meet
        exact ⟨rfl, rfl⟩
    case rest =>
    obtain ⟨rfl, rfl⟩ := hcut
    -- THE TAIL
    have hq := fun W => run_neq_slice_nil (P := Tryd.prog) W 22 5 oA src.length capA Tryd.underlying22
    go_upto_if 81 with fail
    go_cut [0, 82, 83, 84, 85, 86] (fun v0 v82 v83 v84 v85 v86 wx => ∃ ao cp, v0 = .slice ao src.length cp ∧ SrcAt wx wx.heap.size ao src ∧ Below w.heap.size w wx)
    case first =>
      obtain ⟨hsA, hnA⟩ := HSA.out
      clear HSA HM HSL HB
      rcases oA with _ | p
      · obtain ⟨rfl, rfl⟩ := hnA rfl
        simp only [Option.isNone_none, Bool.not_true, List.length_nil] at hq
        go_wp2_with fail
        go_meet
        exact ⟨none, 0, rfl, Or.inl rfl, Below.refl _ _⟩
      · simp only [Option.isNone_some, Bool.not_false] at hq
        have hmk := fun W => mk0L src.length (by omega) W
        have hO := OwnB.newL (w := w) (B := w.heap.size) (k := src.length) (Nat.le_refl _) (by omega)
        have hbl := (Below.refl w.heap.size w).alloc (Nat.le_refl _) (.cells (madeCells #[.int .u8 0] src.length) 5)
        have HS2 : Hid (Src Tryd.prog 1 22 (.slice (some p) src.length capA) src.length (u8c src) (w.alloc (.cells (madeCells #[.int .u8 0] src.length) 5))) := Lib.hid (src_bytes Tryd.underlying22 (hsA.keep hbl.block))
        have HO := Lib.hid hO
        have HBL := Lib.hid hbl
        clear hsA hnA hlA hmA hcA hO hbl
        go_wp2_with (at_builtin; refine Hid.out ?_)
        clear hq hmk
        refine Lib.hid ?_
        refine wp_app rfl (.tmp 84) (.tmp 85) 22 rfl w.heap.size _ 0 [] rfl HO.out _ src.length src rfl HS2.out (by omega) HBL.out.size ?_
        intro ao cp w1 hcp1 ho1 hb1 _
        rw [Nat.zero_add, List.nil_append] at ho1
        rw [Nat.zero_add] at hcp1
        have S0 := Lib.hid ho1.src
        have B0 := Lib.hid (HBL.out.trans hb1)
        rw [Nat.zero_add]
        clear ho1 hb1 HO HBL HS2
        go_wp2_with fail
        go_meet
        exact ⟨ao, cp, rfl, S0.out, B0.out⟩
    case rest =>
    clear hq
    obtain ⟨ao, cp, rfl, hs0, hb0⟩ := hcut
    have hz0 := hb0.size
    have HG : Hid (0 < wc.heap.size) := Lib.hid (by have := HM.out.2; omega)
    have HM1 := Lib.hid (HM.out.1.keep HM.out.2 hb0)
    have S0 := Lib.hid hs0
    have B0 := Lib.hid hb0
    clear hs0 hb0 HSA HM HB hcA hmA hlA
    have HN := Lib.hid (newF_any wid prec wp pp mi pl ze wc HM1.out HG.out)
    go_wp2_with fail
    refine HN.out.mono ?_
    rintro e w2 ⟨rfl, p2, b2⟩
    have P2 := Lib.hid p2
    have B2 := Lib.hid b2
    have S2 := Lib.hid (S0.out.keep b2.block)
    clear p2 b2 HN
    have HF := Lib.hid (zzfb_any _ _ _ _ w2 _ fb_ret (fmtBytes_list wc.heap.size wc.heap.size _ _ vb ao cp src ⟨#[91, 93, 98, 121, 116, 101]⟩ w2 P2.out (show wid ≤ 65536 by omega) (show prec ≤ 65536 by omega) rfl rfl S2.out HV0.out HSL.out))
    go_wp2_with fail
    refine HF.out.mono ?_
    rintro e w3 ⟨v3, rfl, p3, b3⟩
    obtain ⟨T, hT⟩ : ∃ T, [91] ++ jn (intT 10 ⟨wp, pp, mi, pl, false, false, ze, wid, prec⟩) src src.length ++ [93] = T := ⟨_, rfl⟩
    have P3 : Hid (PF wc.heap.size wc.heap.size ⟨wp, pp, mi, pl, false, false, ze, wid, prec⟩ v3 T w3) := Lib.hid (by rw [← hT]; exact p3)
    have HT := Lib.hid hT
    have b3' := B2.out.trans b3
    have S3 := Lib.hid (S0.out.keep b3'.block)
    have B3 := Lib.hid (B0.out.trans (b3'.mono hz0))
    have hz3 := b3'.size
    clear p3 b3 HF hT b3' P2 B2 S2 S0 B0 HM1
    go_wp2_with fail
    refine (zzout_any _ _ _ _ _ w3 P3.out).mono ?_
    rintro e w4 ⟨rfl, rfl⟩
    clear P3
    go_upto_if 101 with fail
    go_cut [21] (fun v21 wx => v21 = .string ⟨(sg pl).toArray⟩ ∧ w3 = wx)
    case first =>
      cases pl
      all_goals
        go_wp2_with fail
        go_meet
        exact ⟨rfl, rfl⟩
    case rest =>
    obtain ⟨rfl, rfl⟩ := hcut
    have hmk := fun W => mk0L 2 (by omega) W
    simp only [Int.cast_ofNat_Int] at hmk
    have HO := Lib.hid (OwnB.newL (w := w3) (B := w3.heap.size) (k := 2) (Nat.le_refl _) (by omega))
    have HBL := Lib.hid ((Below.refl w3.heap.size w3).alloc (Nat.le_refl _) (.cells (madeCells #[.int .u8 0] 2) 5))
    go_wp2_with (at_builtin; refine Hid.out ?_)
    have HSZ : Hid ((w3.alloc (.cells (madeCells #[.int .u8 0] 2) 5)).heap.size = w3.heap.size + 1) := Lib.hid (by simp)
    generalize hwa : (w3.alloc (.cells (madeCells #[.int .u8 0] 2) 5)) = wa at HO HBL HSZ ⊢
    clear hwa hmk
    refine Lib.hid ?_
    refine wp_app_one 91 (by decide) rfl (.tmp 103) (.tmp 104) rfl w3.heap.size _ 0 [] rfl HO.out (by rw [HSZ.out]; rfl) (by omega) HBL.out.size ?_
    intro ao5 k5 cp5 w5 hk5 ho5 hb5
    have HO5 := Lib.hid ho5
    have HB5 := Lib.hid (HBL.out.trans hb5)
    clear ho5 hb5 HO HBL
    have HJ := Lib.hid (fun k (hk : k ≤ src.length) => Nat.le_trans (jn_len (intT 10 ⟨wp, pp, mi, pl, false, false, ze, wid, prec⟩) src (wid + prec + 24) (fun c _ => intT_len ⟨wp, pp, mi, pl, false, false, ze, wid, prec⟩ c) k) (Nat.le_trans (Nat.mul_le_mul_right _ hk) HSL.out))
    go_wp2_with fail
    go_loopw [22, 23] (fun v22 v23 wr => ∃ (k n : Nat) (l : List UInt8), k ≤ src.length ∧ v23 = .int .i64 (k : Int) ∧ l = [91] ++ jn (intT 10 ⟨wp, pp, mi, pl, false, false, ze, wid, prec⟩) src k ∧ OwnB wr w3.heap.size v22 n l ∧ Below w3.heap.size w3 wr) (fun _ v23 _ => src.length - (intOf v23).toNat)
    case atStart => exact ⟨0, k5, [91], Nat.zero_le _, rfl, rfl, HO5.out, HB5.out⟩
    case round =>
      obtain ⟨k, n, l, hk, rfl, hl, ho, hbr⟩ := hrel
      clear HO5 HB5
      obtain ⟨aor, cpr, rfl, _, _⟩ := ho.val
      have hjk := HJ.out k hk
      have hnl : n ≤ 2000000001 := by
        have := ho.len
        rw [hl] at this
        simp only [List.length_append, List.length_cons, List.length_nil] at this
        omega
      clear hjk
      have HO := Lib.hid ho
      have HBR := Lib.hid hbr
      have HL := Lib.hid hl
      have hzr := hbr.size
      clear ho hbr hl
      by_cases hlt : k < src.length
      · obtain ⟨b, o, eo, hbB, hcc⟩ := S3.out.at_ (by omega)
        have HCC := Lib.hid hcc
        clear hcc
        subst eo
        go_upto_if 113 with fail
        go_cut [22, 114, 115, 116] (fun v22 v114 v115 v116 wx => ∃ n2, n2 ≤ n + 1 ∧ OwnB wx w3.heap.size v22 n2 (l ++ (if k = 0 then [] else [32])) ∧ Below w3.heap.size w3 wx)
        case first =>
          by_cases hk0 : k = 0
          · have t5 : decide (0 < k) = false := by simp; omega
            have t5b : ¬ 0 < k := by omega
            have HK0 := Lib.hid hk0
            clear hk0
            go_wp2_with fail
            go_meet
            exact ⟨n, by omega, by rw [if_pos HK0.out, List.append_nil]; exact HO.out, HBR.out⟩
          · have t5 : decide (0 < k) = true := by simp; omega
            have t5b : 0 < k := by omega
            have HK0 := Lib.hid hk0
            clear hk0
            go_wp2_with (at_builtin; refine Hid.out ?_)
            refine Lib.hid ?_
            refine wp_app_one 32 (by decide) rfl (.tmp 114) (.tmp 115) rfl w3.heap.size _ n l rfl HO.out rfl (by omega) hzr ?_
            intro ao4 k4 cp4 w4 hk4 ho4 hb4
            have HO4 := Lib.hid ho4
            have HB4 := Lib.hid (HBR.out.trans hb4)
            clear ho4 hb4
            go_wp2_with fail
            go_meet
            exact ⟨k4, by omega, by rw [if_neg HK0.out]; exact HO4.out, HB4.out⟩
        case rest =>
        obtain ⟨n2, hn2, ho2, hb2⟩ := hcut
        obtain ⟨ao2, cp2, rfl, _, _⟩ := ho2.val
        obtain ⟨c, hcd⟩ : ∃ c, (src.getD k 0).toNat = c := ⟨_, rfl⟩
        have hu8 : c < 256 := by rw [← hcd]; exact UInt8.toNat_lt _
        have hcell : wc.cell? ⟨b, o + k, none⟩ = some (.int .u8 (c : Int)) := by
          rw [(hb2.cell (p := ⟨b, o + k, none⟩) (by show b < _; omega)), HCC.out k hlt, ← hcd]
          simp [List.getD, hlt]
        have HNX : Hid ((l ++ (if k = 0 then [] else [32])) ++ itx (digI 10 c) (sg pl) ((c : Int) == 0) wid wp prec pp mi ze = [91] ++ jn (intT 10 ⟨wp, pp, mi, pl, false, false, ze, wid, prec⟩) src (k + 1)) := Lib.hid (by
          rw [HL.out]
          simp only [jn]
          rw [hcd, show itx (digI 10 c) (sg pl) ((c : Int) == 0) wid wp prec pp mi ze = intT 10 ⟨wp, pp, mi, pl, false, false, ze, wid, prec⟩ c from itx_eq c pl ((c : Int) == 0) wp pp mi ze wid prec (by rw [Bool.eq_iff_iff]; simp) (HW0.out.imp id (fun h => h.2)) (HP0.out.imp id (fun h => h.2))]
          simp only [List.append_assoc])
        have hil : (itx (digI 10 c) (sg pl) ((c : Int) == 0) wid wp prec pp mi ze).length ≤ 200000 := by
          rw [show itx (digI 10 c) (sg pl) ((c : Int) == 0) wid wp prec pp mi ze = intT 10 ⟨wp, pp, mi, pl, false, false, ze, wid, prec⟩ c from itx_eq c pl ((c : Int) == 0) wp pp mi ze wid prec (by rw [Bool.eq_iff_iff]; simp) (HW0.out.imp id (fun h => h.2)) (HP0.out.imp id (fun h => h.2))]
          have := intT_len ⟨wp, pp, mi, pl, false, false, ze, wid, prec⟩ c
          simp only at this
          omega
        have HIT := Lib.hid (fun W => zzitx_any (digI 10 c) (sg pl) ((c : Int) == 0) wid wp prec pp mi ze W (by have := digI_len 10 c; omega) (by unfold sg; split <;> simp) (by omega) (by omega))
        have HDC := Lib.hid (fun W => dec_any c (by omega) W)
        obtain ⟨IT, hIT⟩ : ∃ IT, itx (digI 10 c) (sg pl) ((c : Int) == 0) wid wp prec pp mi ze = IT := ⟨_, rfl⟩
        rw [hIT] at HNX HIT hil
        obtain ⟨l2, hl2⟩ : ∃ l2, l ++ (if k = 0 then [] else [32]) = l2 := ⟨_, rfl⟩
        rw [hl2] at ho2 HNX
        have O2 := Lib.hid ho2
        have B2 := Lib.hid hb2
        have hz2 := hb2.size
        have dcell : wc.drew.cell? ⟨b, o + k, none⟩ = some (.int .u8 (c : Int)) := hcell
        clear ho2 hb2 hl2 hIT hcd HCC HO HBR HL
        have hlen7 : n2 + IT.length ≤ 4294967296 := by omega
        have hbw : b < wc.heap.size := by omega
        have hb3 : b < w3.heap.size := by omega
        go_wp2_with fail
        have hwr : IntKind.u64.wrap (c : Int) = (c : Int) := IntWalk.u64_in _ ⟨Int.natCast_nonneg _, by omega⟩
        refine wp_hide (fun QQ HQQ => ?_)
        go_region_held3 (fun w' => w'.cell? ⟨b, o + k, none⟩ = some (.int .u8 (c : Int))) (first | assumption | exact dcell | exact g7 | exact g6 | exact g5)
          (first
            | ((with_reducible refine step_dec (o := ⟨some 123, _, _, _, _, _⟩) c ?_ ?_ ?_ ?_); rfl; rfl; kernel_rfl; refine (HDC.out _).mono ?_; rintro e w5 ⟨rfl, hb5⟩; refine ⟨_, rfl, ?_⟩; have q5 := Lib.hid hb5; have z5 := hb5.cell (p := ⟨b, o + k, none⟩) hbw; have g5 : w5.cell? ⟨b, o + k, none⟩ = some (.int .u8 (c : Int)) := (by rw [z5]; first | assumption | exact dcell | exact hcell); clear hb5 z5)
            | ((with_reducible refine step_itx (o := ⟨some 136, _, _, _, _, _⟩) (digI 10 c) (sg pl) ((c : Int) == 0) wid wp prec pp mi ze ?_ ?_ ?_ ?_ ?_ ?_ ?_ ?_ ?_ ?_ ?_ ?_); rfl; rfl; kernel_rfl; kernel_rfl; kernel_rfl; kernel_rfl; kernel_rfl; kernel_rfl; kernel_rfl; kernel_rfl; kernel_rfl; refine (HIT.out _).mono ?_; rintro e w6 ⟨rfl, hb6⟩; refine ⟨_, rfl, ?_⟩; have q6 := Lib.hid hb6; have g6 : w6.cell? ⟨b, o + k, none⟩ = some (.int .u8 (c : Int)) := (hb6.cell (p := ⟨b, o + k, none⟩) (Nat.lt_of_lt_of_le hbw q5.out.size)).trans g5; clear hb6)
            | (have hq6 := q6.out.size; have O7 := ((O2.out.below (w' := wc.drew) (Below.refl _ _).drew).below q5.out).below q6.out; have hB7 : w3.heap.size ≤ w6.heap.size := Nat.le_trans (Nat.le_trans hz2 q5.out.size) q6.out.size; (with_reducible refine step_app_str (o := ⟨some 137, _, _, _, _, _⟩) ?_ (.tmp 117) (.tmp 136) ?_ w3.heap.size (.slice ao2 n2 cp2) n2 l2 ?_ O7 IT ?_ hlen7 hB7 ?_); rfl; rfl; kernel_rfl; kernel_rfl; intro ao7 k7 cp7 w7 hk7 ho7 hb7; have q7 := Lib.hid (And.intro ho7 hb7); have g7 : w7.cell? ⟨b, o + k, none⟩ = some (.int .u8 (c : Int)) := (hb7.cell (p := ⟨b, o + k, none⟩) hb3).trans g6; clear ho7 hb7 O7))
        clear hwr
        refine HQQ.out _ _ _ ?_
        clear HQQ
        go_wp2_with fail
        go_roundw
        case rel => exact ⟨k + 1, k7, l2 ++ IT, hlt, by go_num, HNX.out, q7.out.1, ((B2.out.drew.trans (q5.out.mono hz2)).trans (q6.out.mono (Nat.le_trans hz2 q5.out.size))).trans q7.out.2⟩
        case measure => simp [intOf]; omega
      · obtain rfl : k = src.length := by omega
        go_wp2_with (at_builtin; refine Hid.out ?_)
        refine Lib.hid ?_
        refine wp_app_one 93 (by decide) rfl (.tmp 138) (.tmp 139) rfl w3.heap.size _ n l rfl HO.out rfl (by omega) hzr ?_
        intro ao6 k6 cp6 w6 hk6 ho6 hb6
        have hfin : l ++ [UInt8.ofNat 93] = T := by rw [HL.out, ← HT.out]; rfl
        rw [hfin] at ho6
        have hcv := ho6.txt
        have HB6 := Lib.hid (B3.out.trans ((HBR.out.trans hb6).mono (by omega)))
        clear ho6 hb6 hfin HO HBR HL
        go_wp2_with fail
        go_ret
        exact ⟨by first | rfl | simp, HB6.out⟩
end Go.Proofs.YtohcajfgmgpoeaaDoor
