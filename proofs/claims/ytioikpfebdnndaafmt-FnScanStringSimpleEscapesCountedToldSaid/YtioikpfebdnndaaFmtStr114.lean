/-
  FnScanStringSimpleEscapesCounted, walked. Conditions: none (beyond 65536 bytes the law says true at once).
-/
import Derived.Test.YtioikpfebdnndaaFmtStrP114
import Derived.Test.YtioikpfebdnndaaFmtLead114
import Derived.Test.YtioikpfebdnndaaFmtRaw114
import Derived.Test.YtioikpfebdnndaaFmtClone114
namespace Go.Proofs.YtioikpfebdnndaaFmt
open Go.RowKit
set_option maxRecDepth 100000
set_option linter.unusedVariables false

set_option maxHeartbeats 400000 in
theorem bytes_str (o0 : Option Addr) (n0 cap0 : Nat) (w : World) (h0 : n0 ≤ 9223372036854775807) :
    Calls Tryf.prog 14 #[.slice o0 n0 cap0] w fun e w' => e = .returned (.bool (decide (n0 ≤ 1048576))) ∧ w = w' := by
  go_enter Tryf.func14, Tryf.ntmps14
  go_wp2
  all_goals (go_ret; first | exact ⟨ret_t (by omega), rfl⟩ | exact ⟨ret_f (by omega), rfl⟩)

set_option maxHeartbeats 400000 in
theorem zzstr_any (Fx : Fix) (src : List UInt8) (s : St) (w : World) (h : Calls Tryf.prog 30 #[.pointer (some ⟨Fx.gS, 0, none⟩)] w (StrPost Fx src s w)) :
    Calls Tryf.prog 16 #[.pointer (some ⟨Fx.gS, 0, none⟩)] w (StrPost Fx src s w) := by
  have HC := Lib.hid h
  clear h
  go_enter Tryf.func16, Tryf.ntmps16
  go_wp2_with fail
  refine HC.out.mono ?_
  rintro e w2 ⟨t, b, h1, h2, rfl, h4, h5⟩
  have H := Lib.hid (And.intro h1 (And.intro h2 (And.intro h4 h5)))
  clear h1 h2 h4 h5
  go_wp2
  go_ret
  exact ⟨t, b, H.out.1, H.out.2.1, rfl, H.out.2.2.1, H.out.2.2.2⟩
theorem cut_all (src : List UInt8) : cut src 0 src.length = src := by simp [cut]

set_option maxHeartbeats 4000000 in
theorem law_str (I : Go.Stop.Interp) (oA : Option Addr) (cap : Nat) (l : List UInt8) (w : World) (hI : I.answers w.tape) (hcap : l.length ≤ cap) (hmax : cap ≤ maxLen) (hsrc : SrcAt w w.heap.size oA l) (hnil : oA = none → l = [] ∧ cap = 0)
    (htab : Lib.Utf8Tabs 3 4 w) (hg : 3 < w.heap.size ∧ 4 < w.heap.size) :
    Calls Tryf.prog 4 #[.slice oA l.length cap] w fun e w' => e = .returned (.bool true) ∧ Below w.heap.size w w' := by
  have hlen : l.length ≤ 9223372036854775807 := by simp only [maxLen] at hmax; omega
  have HB := fun W => bytes_str oA l.length cap W hlen
  by_cases hb20 : l.length ≤ 1048576
  rotate_left
  · rw [decide_eq_false hb20] at HB
    clear hsrc htab hb20
    go_enter Tryf.func4, Tryf.ntmps4
    go_wp2_with (go_at_call 14; refine (HB _).mono ?_; rintro e w2 ⟨rfl, rfl⟩)
    go_ret
    exact ⟨rfl, Below.refl _ _⟩
  rw [decide_eq_true hb20] at HB
  by_cases hb16 : l.length ≤ 65536
  rotate_left
  · have t1 : decide ((l.length : Int) > 65536) = true := by simp; omega
    clear hsrc htab hb20
    go_enter Tryf.func4, Tryf.ntmps4
    go_wp2_with (go_at_call 14; refine (HB _).mono ?_; rintro e w2 ⟨rfl, rfl⟩)
    go_ret
    exact ⟨rfl, Below.refl _ _⟩
  have t1 : decide ((l.length : Int) > 65536) = false := by simp; omega
  have HSB := Lib.hid (seb_any oA cap l w hsrc hb16)
  have HT := Lib.hid htab
  have HS := Lib.hid hsrc
  have HN := Lib.hid hnil
  have HI := Lib.hid hI
  clear htab hsrc hnil hb20 hI
  go_enter Tryf.func4, Tryf.ntmps4
  go_wp2_with first | (go_at_call 14; refine (HB _).mono ?_; rintro e w2 ⟨rfl, rfl⟩) | (go_at_call 15; refine Hid.out ?_)
  refine Lib.hid ?_
  refine HSB.out.mono ?_
  rintro e w0 ⟨nu, ok, rfl, hseb, rfl⟩
  clear HB HSB t1
  cases ok
  · clear hseb
    go_wp2_with fail
    go_ret
    exact ⟨rfl, Below.refl _ _⟩
  have HSEB := Lib.hid (hseb rfl)
  clear hseb
  have HC := Lib.hid (clone_any oA cap l w HS.out HN.out (by omega))
  go_wp2_with fail
  refine HC.out.mono ?_
  rintro e w1 ⟨oB, cap1, rfl, hcap1, hsrc1, _, hb1⟩
  have hz1 := hb1.size
  have R1 := Lib.hid hsrc1
  have T1 := Lib.hid (tabs_keep HT.out hg.1 hg.2 hb1.block)
  have B1 := Lib.hid hb1
  clear hsrc1 hb1 HC HS HN HT
  obtain ⟨i0, hii, hy0, hy1, hy2⟩ := info_parts u8_info
  have ht := fun W => mk0 (l.length + 2) (by omega) W
  simp only [Int.natCast_add, Int.cast_ofNat_Int] at ht
  have hw2 := Blk.new w1 5 (madeCells #[.int .u8 0] (l.length + 2))
  have ho2 := own0 (B := w1.heap.size) hw2 (Nat.le_refl _) (by omega)
  have hb2 := (Below.refl w1.heap.size w1).alloc (Nat.le_refl _) (.cells (madeCells #[.int .u8 0] (l.length + 2)) 5)
  have hz2 : w1.heap.size ≤ (w1.alloc (.cells (madeCells #[.int .u8 0] (l.length + 2)) 5)).heap.size := by simp
  have hsz : (w1.alloc (.cells (madeCells #[.int .u8 0] (l.length + 2)) 5)).heap.size = w1.heap.size + 1 := by simp
  have HSZ := Lib.hid hsz
  have HW2 := Lib.hid hw2
  have HO2 := Lib.hid ho2
  have HB2 := Lib.hid hb2
  have HZ2 := Lib.hid hz2
  clear hsz hw2 ho2 hb2 hz2
  go_wp2_with (at_builtin; refine Hid.out ?_)
  clear ht
  generalize (w1.alloc (.cells (madeCells #[.int .u8 0] (l.length + 2)) 5)) = wa at HW2 HO2 HB2 HZ2 HSZ ⊢
  have hbk := Blk.new wa 5 #[.int .u8 (34 : Int)]
  rw [HSZ.out] at hbk
  refine Lib.hid ?_
  refine wpList_append_own_src rfl (.tmp 27) (.tmp 28) 22 22 rfl w1.heap.size 5 i0 (.int .u8 0) 1 1 Tryf.underlying22 hii hy0 hy1 hy2 rfl (by decide) _ 0 (u8c []) rfl (HO2.out.alloc _) _ 1 (u8c [UInt8.ofNat 34]) rfl (src_one (z := 34) (by decide) hbk) (by simp [maxLen]) (by omega) (by simp; have := HZ2.out; omega) ?_
  intro v2 w2 hown2 hgrow2 _
  have hb2 := (HB2.out.alloc HZ2.out (.cells #[.int .u8 (34 : Int)] 5)).trans (own_grow (HO2.out.alloc _) (by simp; have := HZ2.out; omega) hgrow2)
  obtain ⟨g2, cp2, rfl, hg2⟩ := own_shape8 hown2 (by omega)
  have O2 : Hid (w2.ownsRow w1.heap.size 5 1 (.slice (some ⟨g2, 0, none⟩) (0 + 1) cp2) 1 (u8c [UInt8.ofNat 34])) := Lib.hid hown2
  have B2 := Lib.hid hb2
  clear hown2 hgrow2 hb2 hbk HSZ HW2 HO2 HB2 HZ2
  go_wp2_with (at_builtin; refine Hid.out ?_)
  refine Lib.hid ?_
  refine wpList_append_own_src rfl (.tmp 30) (.tmp 31) 22 22 rfl w1.heap.size 5 i0 (.int .u8 0) 1 1 Tryf.underlying22 hii hy0 hy1 hy2 rfl (by decide) _ 1 (u8c [UInt8.ofNat 34]) rfl O2.out _ l.length (u8c l) rfl (src_bytes (cap := cap1) Tryf.underlying22 (R1.out.keep B2.out.block)) (by simp only [maxLen]; omega) (by omega) B2.out.size ?_
  intro v3 w3 hown3 hgrow3 _
  have hb3 := B2.out.trans (own_grow O2.out B2.out.size hgrow3)
  obtain ⟨g3, cp3, rfl, hg3⟩ := own_shape8 hown3 (by omega)
  have O3 : Hid (w3.ownsRow w1.heap.size 5 1 (.slice (some ⟨g3, 0, none⟩) (1 + l.length) cp3) (1 + l.length) (u8c (UInt8.ofNat 34 :: l))) := Lib.hid (by
    have := hown3
    rw [← u8c_app] at this
    exact this)
  have B3 := Lib.hid hb3
  clear hown3 hgrow3 hb3 O2 B2
  go_wp2_with (at_builtin; refine Hid.out ?_)
  have hbk := Blk.new w3 5 #[.int .u8 (34 : Int)]
  have B3a := B3.out.alloc B3.out.size (.cells #[.int .u8 (34 : Int)] 5)
  refine Lib.hid ?_
  refine wpList_append_own_src rfl (.tmp 33) (.tmp 34) 22 22 rfl w1.heap.size 5 i0 (.int .u8 0) 1 1 Tryf.underlying22 hii hy0 hy1 hy2 rfl (by decide) _ (1 + l.length) (u8c (UInt8.ofNat 34 :: l)) rfl (O3.out.alloc _) _ 1 (u8c [UInt8.ofNat 34]) rfl (src_one (z := 34) (by decide) hbk) (by simp only [maxLen]; omega) (by omega) B3a.size ?_
  intro v4 w4 hown4 hgrow4 _
  have hb4 := B3a.trans (own_grow (O3.out.alloc _) B3a.size hgrow4)
  obtain ⟨g4, cp4, rfl, hg4⟩ := own_shape8 hown4 (by omega)
  have hc4 := own_cap hown4
  obtain ⟨src, hsrcd⟩ : ∃ src, src = (UInt8.ofNat 34 :: l) ++ [UInt8.ofNat 34] := ⟨_, rfl⟩
  have hlen2 : src.length = l.length + 2 := by rw [hsrcd]; simp
  have ho4 : w4.ownsRow w1.heap.size 5 1 (.slice (some ⟨g4, 0, none⟩) (1 + l.length + 1) cp4) src.length (u8c src) := by
    have := hown4
    rw [← u8c_app, ← hsrcd] at this
    rw [show src.length = 1 + l.length + 1 by omega]
    exact this
  have hbs : ∀ i, i < l.length → bt src (i + 1) = bt l i := fun i hi => by
    rw [hsrcd]
    simp [bt, List.getD, List.getElem?_append_left hi, hi]
  have hq : bt src (l.length + 1) = 34 := by
    rw [hsrcd]
    simp [bt, List.getD]
  have hb0 : bt src 0 = 34 := by rw [hsrcd]; rfl
  have hasc : ∀ i, i < src.length → 0 < bt src i ∧ bt src i < 128 := by
    intro i i2
    rcases i with _ | j
    · omega
    · by_cases hj : j < l.length
      · rw [hbs j hj]
        have := seb_asc HSEB.out j (Nat.zero_le _) hj
        omega
      · obtain rfl : j = l.length := by omega
        omega
  have hs4 := own_srcAt ho4
  have hz4 := hb4.size
  have hsl : 1 + l.length + 1 = src.length := by omega
  rw [hsl]
  obtain ⟨b5, o5, eo5, hbb5, hcc5⟩ := hs4.at_ (by omega)
  injection eo5 with eo5
  injection eo5 with e1 e2
  subst e1 e2
  have HM := Lib.hid (mk_any (some ⟨g4, 0, none⟩) cp4 src w4 hs4 (tabs_keep T1.out (by omega) (by omega) hb4.block) (by omega) (by omega) (by omega))
  have HP := Lib.hid (fun (s t : St) (b : Bool) (h1 : Good src s) (h2 : s.off = 1) (h3 : StrR src s t b) => str_plain hlen2 hbs hq hasc HSEB.out h1 h2 h3)
  have hle1 : src.length ≤ 65538 := by omega
  have hle2 : 2 ≤ src.length := by omega
  have HASC := Lib.hid hasc
  have B4 := Lib.hid (B1.out.trans (hb4.mono hz1))
  have HCC5 := Lib.hid hcc5
  have HB0 := Lib.hid hb0
  have HI4 : Hid (I.answers w4.tape) := Lib.hid (by rw [hb4.tape, B1.out.tape]; exact HI.out)
  clear hs4 hb4 hcc5 T1 B1 B3 B3a O3 hbs hq hasc hsrcd hb0 ho4 hown4 hgrow4 hbk HSEB HI hsl hlen2 hii hy0 hy1 hy2 R1
  go_wp2_with fail
  refine HM.out.mono ?_
  rintro e w5 ⟨Fx, rfl, hFB, hFo, hFc, hs5, hb5⟩
  have hst := stNew_ascii src (by omega) (by have := HB0.out; omega)
  have hec0 := stNew_ec0 src (by omega) (by have := HB0.out; omega) (by have := HB0.out; omega)
  obtain ⟨n1, n2, n3, n4, n5⟩ := nx_ascii (stNew_good src 0) (by omega) (by rw [hst.1]; have := HB0.out; omega)
  rw [hst.1] at n2 n4 n5
  have hec1 : (nx src (stNew src 0)).ec = 0 := by
    have := HASC.out (0 + 1) (by omega)
    rw [n4 (by omega) this.2, if_neg (by omega), hec0]
  have HST : Hid (Good src (nx src (stNew src 0)) ∧ (nx src (stNew src 0)).off = 1 ∧ (nx src (stNew src 0)).ec = 0) := Lib.hid ⟨n3, n2, hec1⟩
  have H5 := Lib.hid hs5
  have B5 := Lib.hid hb5
  have HE0 := Lib.hid hec0
  clear hst hec0 n1 n2 n3 n4 n5 hec1 hs5 hb5 HM hFo hFc
  go_wp2_with fail
  refine (zznext_any Fx src _ _ H5.out (by rw [HE0.out]; omega)).mono ?_
  rintro e w6 ⟨rfl, hs6, hb6⟩
  generalize nx src (stNew src 0) = s6 at *
  have H6 := Lib.hid hs6
  have B6 := Lib.hid (B5.out.trans (hb6.mono hFB))
  have HRW := Lib.hid (string_any I Fx src s6 w6 (by rw [B6.out.tape]; exact HI4.out) hs6 HST.out.1 (by rw [HST.out.2.1]; omega) (by rw [HST.out.2.2]; omega))
  clear hs6 hb6 B5 H5
  go_wp2_with fail
  refine (zzstr_any Fx src s6 w6 HRW.out).mono ?_
  rintro e w7 ⟨t7, b7, hr7, hw7, rfl, hs7, hb7⟩
  obtain ⟨q1, q2, q3, q4⟩ := HP.out _ _ _ HST.out.1 HST.out.2.1 hr7
  subst q1
  rw [HST.out.2.2, Nat.zero_add] at q3
  have hs7' : SC Fx src t7 w7 := hs7
  rw [q2, HST.out.2.1, show 1 - 1 = 0 from rfl, cut_all]
  have hbel7 : Below w4.heap.size w4 w7 := B6.out.trans (hb7.mono hFB)
  have HSM := Lib.hid (sameText_any src g4 0 cp4 w7 (by omega) (fun i hi => (hbel7.cell (p := ⟨g4, 0 + i, none⟩) hbb5).trans (HCC5.out i hi)))
  have HQ := Lib.hid (And.intro q2 (And.intro q3 q4))
  have H7 := Lib.hid hs7'
  have B7 := Lib.hid (B4.out.trans (hbel7.mono (by omega)))
  clear hr7 hw7 hs7 hb7 hbel7 HRW B6 H6 q2 q3 q4 hs7' B4 HCC5 HP
  go_wp2_with fail
  refine HSM.out.mono ?_
  rintro e w8 ⟨rfl, hq8⟩
  have H8 := Lib.hid (H7.out.below (hq8.below _))
  have B8 := Lib.hid (B7.out.trans (hq8.below _))
  have HO := Lib.hid (zzoff_any Fx src _ _ H8.out)
  have HC := Lib.hid (zzch_any Fx src _ _ H8.out)
  have HE := Lib.hid (errcount_any Fx src _ _ H8.out)
  rw [HQ.out.1] at HO
  rw [HQ.out.2.2] at HC
  rw [HQ.out.2.1] at HE
  clear hq8 HSM H7 B7
  go_wp2_with first | (go_at_call 18; refine HO.out.mono ?_; rintro e w' ⟨rfl, rfl⟩) | (go_at_call 19; refine HC.out.mono ?_; rintro e w' ⟨rfl, rfl⟩) | (go_at_call 13; refine HE.out.mono ?_; rintro e w' ⟨rfl, rfl⟩)
  go_ret
  exact ⟨rfl, B8.out⟩
end Go.Proofs.YtioikpfebdnndaaFmt
