/-
  FnImmutableMapCopyIsAMapEqualToMap, walked. Conditions: as stated.
-/
import Derived.Test.YthlhfhcjfikflaaHp84
import Derived.Deep.DeepCutAuto
namespace Go.Proofs.Ythlhfhcjfikflaa
open Go.RowKit Go.Maps Go.WideMaps
set_option maxRecDepth 100000
set_option linter.unusedVariables false

set_option maxHeartbeats 16000000 in
theorem law_im (oK oV : Option Addr) (nk nv capK capV : Nat) (ks : List (List UInt8)) (vs : List Int) (w : World) (hnk : ks.length = nk) (hnv : vs.length = nv) (h1 : nk ≤ 9223372036854775807) (h2 : nv ≤ 9223372036854775807)
    (hK : RowAt strV w w.heap.size oK ks) (hV : RowAt intV w w.heap.size oV vs) (hnK : oK = none → ks = [] ∧ capK = 0) (hnV : oV = none → vs = [] ∧ capV = 0) (hl : ∀ z ∈ ks, z.length ≤ 9223372036854775807) (hr : ∀ z ∈ vs, -9223372036854775808 ≤ z ∧ z ≤ 9223372036854775807) :
    Calls Try.prog 4 #[.slice oK nk capK, .slice oV nv capV] w fun e w' => e = .returned (.bool true) ∧ Below w.heap.size w w' := by
  have HZB := Lib.hid (bytes_i oK oV capK capV nk nv ks w hnk h1 h2 hl hK)
  have HNK := Lib.hid hnk
  have HNV := Lib.hid hnv
  have HK := Lib.hid hK
  have HV := Lib.hid hV
  have HNN := Lib.hid (And.intro hnK hnV)
  have HR := Lib.hid hr
  have HML : Hid (∀ z ∈ ks, z.length ≤ maxLen) := Lib.hid (fun z hz => by have := hl z hz; unfold maxLen; omega)
  clear hnk hnv hK hV hnK hnV hr hl
  go_enter Try.func4, Try.ntmps4
  go_wp2_with (go_at_call 15; refine Hid.out ?_)
  refine Lib.hid ?_
  refine HZB.out.mono ?_
  rintro e w0 ⟨bb, rfl, hbb, rfl⟩
  have HBB := Lib.hid hbb
  clear hbb HZB
  cases bb
  · go_wp2_with fail
    go_ret
    exact ⟨rfl, Below.refl _ _⟩
  have HL := Lib.hid (HBB.out rfl)
  clear HBB
  by_cases g1 : nk ≤ 65536
  rotate_left
  · have t1 : decide ((nk : Int) > 65536) = true := by simp; omega
    go_wp2_with fail
    go_ret
    exact ⟨rfl, Below.refl _ _⟩
  by_cases g2 : nv ≤ 65536
  rotate_left
  · have t1 : decide ((nk : Int) > 65536) = false := by simp; omega
    have t2 : decide ((nv : Int) > 65536) = true := by simp; omega
    go_wp2_with fail
    go_ret
    exact ⟨rfl, Below.refl _ _⟩
  have HSZ := Lib.hid (size_any oK capK nk nv ks w HNK.out g1 g2 HL.out HK.out)
  go_wp2_with (go_at_call 7; refine Hid.out ?_)
  refine Lib.hid ?_
  refine HSZ.out.mono ?_
  rintro e w0 ⟨z, rfl, hz0, hz1, rfl⟩
  clear HSZ
  by_cases g3 : z ≤ 1048576
  rotate_left
  · have t3 : decide (z > 1048576) = true := by simp; omega
    go_wp2_with fail
    go_ret
    exact ⟨rfl, Below.refl _ _⟩
  have t3 : decide (z > 1048576) = false := by simp; omega
  have HCK : Hid (Calls Try.prog 8 #[.slice oK nk capK] w (CloneN strV ks nk w)) := Lib.hid (by
    have := clS_any oK capK ks w HK.out HNN.out.1 (by have := HNK.out; omega)
    rw [HNK.out] at this
    exact this.mono (fun _ _ h => CloneN.of HNK.out h))
  go_wp2_with (go_at_call 8; refine Hid.out ?_)
  refine Lib.hid ?_
  refine HCK.out.mono ?_
  rintro e w1 ⟨oK1, cK1, rfl, hk1, hb1⟩
  have K1 := Lib.hid hk1
  have B1 := Lib.hid hb1
  have HCV : Hid (Calls Try.prog 9 #[.slice oV nv capV] w1 (CloneN intV vs nv w1)) := Lib.hid (by
    have := clI_any oV capV vs w1 (HV.out.below hb1) HNN.out.2 (by have := HNV.out; omega) HR.out
    rw [HNV.out] at this
    exact this.mono (fun _ _ h => CloneN.of HNV.out h))
  clear hk1 hb1 HCK t3
  go_wp2_with (go_at_call 9; refine Hid.out ?_)
  refine Lib.hid ?_
  refine HCV.out.mono ?_
  rintro e w2 ⟨oV1, cV1, rfl, hv2, hb2⟩
  have K2 := Lib.hid (K1.out.below hb2)
  have V2 := Lib.hid hv2
  have B2 := Lib.hid (B1.out.trans (hb2.mono B1.out.size))
  clear hv2 hb2 HCV K1 B1
  obtain ⟨n, hn⟩ : ∃ n, min nk nv = n := ⟨_, rfl⟩
  have hn1 : n ≤ nk := by omega
  have hn2 : n ≤ nv := by omega
  have hn3 : n ≤ 65536 := by omega
  have HMN := Lib.hid (min_any nk nv n hn w2 g1 g2)
  clear hn h1 h2
  go_wp2_with (go_at_call 10; refine Hid.out ?_)
  refine Lib.hid ?_
  refine HMN.out.mono ?_
  rintro e w0 ⟨rfl, rfl⟩
  clear HMN HNN HR HK HV
  have HBL := Lib.hid (fun (b : Bool) (W : World) (k : RowAt strV W W.heap.size oK1 ks) (v : RowAt intV W W.heap.size oV1 vs) => build_any oK1 oV1 nk nv cK1 cV1 n ks vs b W HNK.out HNV.out k v hn1 hn2 hn3 HML.out)
  have hme := method_mtn
  have hmq := method_meq
  have hnq := nil_meq
  go_wp2_with (go_at_call 11; refine Hid.out ?_)
  refine Lib.hid ?_

  refine (HBL.out false w2 K2.out V2.out).mono ?_
  rintro e wb ⟨v, rfl, hbd, hbb⟩
  obtain ⟨ba, Da, rfl, hgea, hmi⟩ : ∃ b D, v = .map (some b) ∧ w2.heap.size ≤ b ∧ MI wb b n D (bldF ks vs n) := by
    rcases hbd with ⟨h, _⟩ | ⟨_, h⟩
    · cases h
    · exact h
  have hbc := hbb.alloc hbb.size (.cells #[.map (some ba)] 35)
  have Ma_3 := Lib.hid (hmi.below ((Below.refl wb.heap.size wb).alloc (Nat.le_refl _) (.cells #[.map (some ba)] 35)))
  have Aa_3 := Lib.hid (Blk.new wb 35 #[.map (some ba)])
  have BC := Lib.hid hbc
  clear hbd hmi hbb hbc
  go_upto_region 11 with fail
  generalize (wb.alloc (.cells #[.map (some ba)] 35)) = w3 at BC Ma_3 Aa_3 ⊢
  generalize wb.heap.size = pa at Aa_3 ⊢
  have K3 := Lib.hid (K2.out.below BC.out)
  have V3 := Lib.hid (V2.out.below BC.out)
  have B3 := Lib.hid (B2.out.trans (BC.out.mono B2.out.size))
  clear K2 V2 B2 BC

  go_wp2_with (go_at_call 11; refine Hid.out ?_)
  refine Lib.hid ?_

  refine (HBL.out false w3 K3.out V3.out).mono ?_
  rintro e wb ⟨v, rfl, hbd, hbb⟩
  obtain ⟨bi, Di, rfl, hgei, hmi⟩ : ∃ b D, v = .map (some b) ∧ w3.heap.size ≤ b ∧ MI wb b n D (bldF ks vs n) := by
    rcases hbd with ⟨h, _⟩ | ⟨_, h⟩
    · cases h
    · exact h
  have hbc := hbb.alloc hbb.size (.cells #[.map (some bi)] 41)
  have Mi_4 := Lib.hid (hmi.below ((Below.refl wb.heap.size wb).alloc (Nat.le_refl _) (.cells #[.map (some bi)] 41)))
  have Ai_4 := Lib.hid (Blk.new wb 41 #[.map (some bi)])
  have BC := Lib.hid hbc
  clear hbd hmi hbb hbc
  go_upto_region 12 with fail
  generalize (wb.alloc (.cells #[.map (some bi)] 41)) = w4 at BC Mi_4 Ai_4 ⊢
  generalize wb.heap.size = pi at Ai_4 ⊢
  have K4 := Lib.hid (K3.out.below BC.out)
  have V4 := Lib.hid (V3.out.below BC.out)
  have B4 := Lib.hid (B3.out.trans (BC.out.mono B3.out.size))
  have Ma_4 := Lib.hid (Ma_3.out.below BC.out)
  have Aa_4 := Lib.hid (Aa_3.out.same (BC.out.block _ Aa_3.out.lt))
  clear K3 V3 B3 Ma_3 Aa_3 BC

  have hn5 : n ≤ 65537 := by omega
  go_wp2_with (go_at_call 16; refine Hid.out ?_)
  refine Lib.hid ?_
  refine (immCopy_own pi bi n Di (bldF ks vs n) w4 (Ai_4.out.cell 0) Ai_4.out.lt hn5 Mi_4.out).mono ?_
  rintro e w5 ⟨pc, bc, nc, Dc, rfl, hac, hnc, hmc, hbl⟩
  have BC := Lib.hid hbl
  have Mc_5 := Lib.hid hmc
  have Ac_5 := Lib.hid hac
  clear hbl hmc hac
  have K5 := Lib.hid (K4.out.below BC.out)
  have V5 := Lib.hid (V4.out.below BC.out)
  have B5 := Lib.hid (B4.out.trans (BC.out.mono B4.out.size))
  have Ma_5 := Lib.hid (Ma_4.out.below BC.out)
  have Aa_5 := Lib.hid (Aa_4.out.same (BC.out.block _ Aa_4.out.lt))
  have Mi_5 := Lib.hid (Mi_4.out.below BC.out)
  have Ai_5 := Lib.hid (Ai_4.out.same (BC.out.block _ Ai_4.out.lt))
  clear K4 V4 B4 Ma_4 Aa_4 Mi_4 Ai_4 BC

  have HE := Lib.hid ((mapEq_map pc pa bc ba nc n Dc Da (bldF ks vs n) (bldF ks vs n) w5 (Ac_5.out.cell 0) (Aa_5.out.cell 0) Mc_5.out Ma_5.out).mono (fun _ _ h => h.yes ⟨Mc_5.out.size_eq lawS Ma_5.out, fun _ _ h => h⟩))
  go_wp2_with first | (go_at_call 12; refine (mtn_any _ _).mono ?_; rintro e w' ⟨rfl, rfl⟩) | (go_at_call 17; refine Hid.out ?_)
  refine Lib.hid ?_
  refine HE.out.mono ?_
  rintro e w6 ⟨rfl, hbl⟩
  have BC := Lib.hid hbl
  clear hbl HE
  have K6 := Lib.hid (K5.out.below BC.out)
  have V6 := Lib.hid (V5.out.below BC.out)
  have B6 := Lib.hid (B5.out.trans (BC.out.mono B5.out.size))
  have Ma_6 := Lib.hid (Ma_5.out.below BC.out)
  have Aa_6 := Lib.hid (Aa_5.out.same (BC.out.block _ Aa_5.out.lt))
  have Mi_6 := Lib.hid (Mi_5.out.below BC.out)
  have Ai_6 := Lib.hid (Ai_5.out.same (BC.out.block _ Ai_5.out.lt))
  have Mc_6 := Lib.hid (Mc_5.out.below BC.out)
  have Ac_6 := Lib.hid (Ac_5.out.same (BC.out.block _ Ac_5.out.lt))
  clear K5 V5 B5 Ma_5 Aa_5 Mi_5 Ai_5 Mc_5 Ac_5 BC

  have HE := Lib.hid ((mapEq_map pa pc ba bc n nc Da Dc (bldF ks vs n) (bldF ks vs n) w6 (Aa_6.out.cell 0) (Ac_6.out.cell 0) Ma_6.out Mc_6.out).mono (fun _ _ h => h.yes ⟨Ma_6.out.size_eq lawS Mc_6.out, fun _ _ h => h⟩))
  go_wp2_with (go_at_call 17; refine Hid.out ?_)
  refine Lib.hid ?_
  refine HE.out.mono ?_
  rintro e w7 ⟨rfl, hbl⟩
  have BC := Lib.hid hbl
  clear hbl HE Mc_6 Ac_6
  have K7 := Lib.hid (K6.out.below BC.out)
  have V7 := Lib.hid (V6.out.below BC.out)
  have B7 := Lib.hid (B6.out.trans (BC.out.mono B6.out.size))
  have Ma_7 := Lib.hid (Ma_6.out.below BC.out)
  have Aa_7 := Lib.hid (Aa_6.out.same (BC.out.block _ Aa_6.out.lt))
  have Mi_7 := Lib.hid (Mi_6.out.below BC.out)
  have Ai_7 := Lib.hid (Ai_6.out.same (BC.out.block _ Ai_6.out.lt))
  clear K6 V6 B6 Ma_6 Aa_6 Mi_6 Ai_6 BC

  go_wp2_with (go_at_call 13; refine Hid.out ?_)
  refine Lib.hid ?_
  refine (mapCopy_own pa ba n Da (bldF ks vs n) w7 (Aa_7.out.cell 0) Aa_7.out.lt hn5 Ma_7.out).mono ?_
  rintro e w8 ⟨pd, bd, nd, Dd, rfl, had, hnd, hmd, hbl⟩
  have BC := Lib.hid hbl
  have Md_8 := Lib.hid hmd
  have Ad_8 := Lib.hid had
  clear hbl hmd had
  have K8 := Lib.hid (K7.out.below BC.out)
  have V8 := Lib.hid (V7.out.below BC.out)
  have B8 := Lib.hid (B7.out.trans (BC.out.mono B7.out.size))
  have Mi_8 := Lib.hid (Mi_7.out.below BC.out)
  have Ai_8 := Lib.hid (Ai_7.out.same (BC.out.block _ Ai_7.out.lt))
  clear K7 V7 B7 Mi_7 Ai_7 BC

  have HE := Lib.hid ((mapEq_imm pd pi bd bi nd n Dd Di (bldF ks vs n) (bldF ks vs n) w8 (Ad_8.out.cell 0) (Ai_8.out.cell 0) Md_8.out Mi_8.out).mono (fun _ _ h => h.yes ⟨Md_8.out.size_eq lawS Mi_8.out, fun _ _ h => h⟩))
  go_wp2_with (go_at_call 17; refine Hid.out ?_)
  refine Lib.hid ?_
  refine HE.out.mono ?_
  rintro e w9 ⟨rfl, hbl⟩
  have B9 := Lib.hid (B8.out.trans (hbl.mono B8.out.size))
  clear hbl HE
  go_wp2_with (go_at_call 12; refine (mtn_any _ _).mono ?_; rintro e w' ⟨rfl, rfl⟩)
  go_ret
  exact ⟨rfl, B9.out⟩
end Go.Proofs.Ythlhfhcjfikflaa
