/-
  FnMapTypeNameIsMapForAnyContents, walked. Conditions: as stated.
-/
import Derived.Test.YthlhfhcjfikflaaHp84
import Derived.Deep.DeepCutAuto
namespace Go.Proofs.Ythlhfhcjfikflaa
open Go.RowKit Go.Maps Go.WideMaps
set_option maxRecDepth 100000
set_option linter.unusedVariables false

set_option maxHeartbeats 16000000 in
theorem law_tn (oK oV : Option Addr) (nk nv capK capV : Nat) (ks : List (List UInt8)) (vs : List Int) (nm : Bool) (w : World) (hnk : ks.length = nk) (hnv : vs.length = nv) (h1 : nk ≤ 9223372036854775807) (h2 : nv ≤ 9223372036854775807)
    (hK : RowAt strV w w.heap.size oK ks) (hV : RowAt intV w w.heap.size oV vs) (hnK : oK = none → ks = [] ∧ capK = 0) (hnV : oV = none → vs = [] ∧ capV = 0) (hl : ∀ z ∈ ks, z.length ≤ 9223372036854775807) (hr : ∀ z ∈ vs, -9223372036854775808 ≤ z ∧ z ≤ 9223372036854775807) :
    Calls Try.prog 3 #[.slice oK nk capK, .slice oV nv capV, .bool nm] w fun e w' => e = .returned (.bool true) ∧ Below w.heap.size w w' := by
  have HZB := Lib.hid (bytes_t oK oV capK capV nk nv nm ks w hnk h1 h2 hl hK)
  have HNK := Lib.hid hnk
  have HNV := Lib.hid hnv
  have HK := Lib.hid hK
  have HV := Lib.hid hV
  have HNN := Lib.hid (And.intro hnK hnV)
  have HR := Lib.hid hr
  have HML : Hid (∀ z ∈ ks, z.length ≤ maxLen) := Lib.hid (fun z hz => by have := hl z hz; unfold maxLen; omega)
  clear hnk hnv hK hV hnK hnV hr hl
  go_enter Try.func3, Try.ntmps3
  go_wp2_with (go_at_call 6; refine Hid.out ?_)
  refine Lib.hid ?_
  refine HZB.out.mono ?_
  rintro e w0 ⟨bb, rfl, hbb, rfl⟩
  have HBB := Lib.hid hbb
  clear hbb HZB
  cases bb
  · go_wp2_with fail
    go_ret
    exact ⟨rfl, Below.refl _ _⟩
  have HL := Lib.hid (HBB.out rfl)
  clear HBB
  by_cases g1 : nk ≤ 65536
  rotate_left
  · have t1 : decide ((nk : Int) > 65536) = true := by simp; omega
    go_wp2_with fail
    go_ret
    exact ⟨rfl, Below.refl _ _⟩
  by_cases g2 : nv ≤ 65536
  rotate_left
  · have t1 : decide ((nk : Int) > 65536) = false := by simp; omega
    have t2 : decide ((nv : Int) > 65536) = true := by simp; omega
    go_wp2_with fail
    go_ret
    exact ⟨rfl, Below.refl _ _⟩
  have HSZ := Lib.hid (size_any oK capK nk nv ks w HNK.out g1 g2 HL.out HK.out)
  go_wp2_with (go_at_call 7; refine Hid.out ?_)
  refine Lib.hid ?_
  refine HSZ.out.mono ?_
  rintro e w0 ⟨z, rfl, hz0, hz1, rfl⟩
  clear HSZ
  by_cases g3 : z ≤ 1048576
  rotate_left
  · have t3 : decide (z > 1048576) = true := by simp; omega
    go_wp2_with fail
    go_ret
    exact ⟨rfl, Below.refl _ _⟩
  have t3 : decide (z > 1048576) = false := by simp; omega
  have HCK : Hid (Calls Try.prog 8 #[.slice oK nk capK] w (CloneN strV ks nk w)) := Lib.hid (by
    have := clS_any oK capK ks w HK.out HNN.out.1 (by have := HNK.out; omega)
    rw [HNK.out] at this
    exact this.mono (fun _ _ h => CloneN.of HNK.out h))
  go_wp2_with (go_at_call 8; refine Hid.out ?_)
  refine Lib.hid ?_
  refine HCK.out.mono ?_
  rintro e w1 ⟨oK1, cK1, rfl, hk1, hb1⟩
  have K1 := Lib.hid hk1
  have B1 := Lib.hid hb1
  have HCV : Hid (Calls Try.prog 9 #[.slice oV nv capV] w1 (CloneN intV vs nv w1)) := Lib.hid (by
    have := clI_any oV capV vs w1 (HV.out.below hb1) HNN.out.2 (by have := HNV.out; omega) HR.out
    rw [HNV.out] at this
    exact this.mono (fun _ _ h => CloneN.of HNV.out h))
  clear hk1 hb1 HCK t3
  go_wp2_with (go_at_call 9; refine Hid.out ?_)
  refine Lib.hid ?_
  refine HCV.out.mono ?_
  rintro e w2 ⟨oV1, cV1, rfl, hv2, hb2⟩
  have K2 := Lib.hid (K1.out.below hb2)
  have V2 := Lib.hid hv2
  have B2 := Lib.hid (B1.out.trans (hb2.mono B1.out.size))
  clear hv2 hb2 HCV K1 B1
  obtain ⟨n, hn⟩ : ∃ n, min nk nv = n := ⟨_, rfl⟩
  have hn1 : n ≤ nk := by omega
  have hn2 : n ≤ nv := by omega
  have hn3 : n ≤ 65536 := by omega
  have HMN := Lib.hid (min_any nk nv n hn w2 g1 g2)
  clear hn h1 h2
  go_wp2_with (go_at_call 10; refine Hid.out ?_)
  refine Lib.hid ?_
  refine HMN.out.mono ?_
  rintro e w0 ⟨rfl, rfl⟩
  clear HMN HNN HR HK HV
  have HBL := Lib.hid (fun (b : Bool) (W : World) (k : RowAt strV W W.heap.size oK1 ks) (v : RowAt intV W W.heap.size oV1 vs) => build_any oK1 oV1 nk nv cK1 cV1 n ks vs b W HNK.out HNV.out k v hn1 hn2 hn3 HML.out)
  have hme := method_mtn
  have hmm := @run_makeMap Try.prog
  go_wp2_with (go_at_call 11; refine Hid.out ?_)
  refine Lib.hid ?_

  refine (HBL.out nm w2 K2.out V2.out).mono ?_
  rintro e wb ⟨v, rfl, hbd, hbb⟩
  obtain ⟨s2, hms⟩ := BuildPost.mapS hn3 hbd
  obtain ⟨ob2, rfl⟩ : ∃ o, v = .map o := by
    rcases hbd with ⟨_, _, rfl⟩ | ⟨_, b, D, rfl, _⟩
    · exact ⟨_, rfl⟩
    · exact ⟨_, rfl⟩
  have hbc := hbb.alloc hbb.size (.cells #[.map ob2] 35)
  have M3 := Lib.hid (hms.below ((Below.refl wb.heap.size wb).alloc (Nat.le_refl _) (.cells #[.map ob2] 35)))
  have A3 := Lib.hid (Blk.new wb 35 #[.map ob2])
  have hsz2 : wb.heap.size < (wb.alloc (.cells #[.map ob2] 35)).heap.size := by simp
  have HBD := Lib.hid hbd
  have BC := Lib.hid hbc
  clear hbd hms hbb hbc
  go_upto_region 11 with fail
  generalize (wb.alloc (.cells #[.map ob2] 35)) = w3 at BC M3 A3 hsz2 ⊢
  generalize wb.heap.size = p2 at A3 hsz2 ⊢
  have K3 := Lib.hid (K2.out.below BC.out)
  have V3 := Lib.hid (V2.out.below BC.out)
  have B3 := Lib.hid (B2.out.trans (BC.out.mono B2.out.size))
  clear K2 V2 B2 BC

  have hmd := Lib.hid (World.ownsMap_made w3 Try.prog 9 (ptrElem 29))
  clear HBD
  go_wp2_with first | (go_at_call 12; refine (mtn_any _ _).mono ?_; rintro e w' ⟨rfl, rfl⟩) | (at_mapUpdate; refine wpList_mapUpdate_own _ rfl _ _ _ 30 rfl 9 38 lawS Try.underlying30 (ptrElem 29) w3.heap.size 0 (.map []) rfl hmd.out (by unfold maxLen; omega) _ _ (.string [105, 110]) rfl rfl (keyS [105, 110] (by decide)) _ [] (ptrElem_mk 29 p2) ?_; intro w5 hown5 hg5; have BU := Lib.hid (((Below.refl w3.heap.size w3).alloc (Nat.le_refl _) (.map #[] 0)).grown hg5 (by simp) (fun j hj => by cases hj; exact Nat.le_refl _)); clear hown5 hg5) | (go_at_call 13; refine Hid.out ?_)
  refine Lib.hid ?_
  have BV := Lib.hid (BU.out.alloc BU.out.size (.cells #[.map (some w3.heap.size)] 35))
  generalize (w5.alloc (.cells #[.map (some w3.heap.size)] 35)) = w6 at BV ⊢
  clear BU hmd
  refine (mapCopy_any p2 s2 (.map ob2) (bldF ks vs n) w6 ((A3.out.same (BV.out.block _ A3.out.lt)).cell 0) (by have := BV.out.size; omega) (M3.out.below BV.out)).mono ?_
  rintro e w7 ⟨p6, b6, n6, D6, rfl, _, _, _, hbl6⟩
  have BC := Lib.hid (BV.out.trans (hbl6.mono BV.out.size))
  clear hbl6 BV M3 A3
  have K7 := Lib.hid (K3.out.below BC.out)
  have V7 := Lib.hid (V3.out.below BC.out)
  have B7 := Lib.hid (B3.out.trans (BC.out.mono B3.out.size))
  clear K3 V3 B3 BC

  go_wp2_with first | (go_at_call 12; refine (mtn_any _ _).mono ?_; rintro e w' ⟨rfl, rfl⟩) | (go_at_call 11; refine Hid.out ?_)
  refine Lib.hid ?_

  refine (HBL.out nm w7 K7.out V7.out).mono ?_
  rintro e wb ⟨v, rfl, hbd, hbb⟩
  obtain ⟨s7, hms⟩ := BuildPost.mapS hn3 hbd
  obtain ⟨ob7, rfl⟩ : ∃ o, v = .map o := by
    rcases hbd with ⟨_, _, rfl⟩ | ⟨_, b, D, rfl, _⟩
    · exact ⟨_, rfl⟩
    · exact ⟨_, rfl⟩
  have hbc := hbb.alloc hbb.size (.cells #[.map ob7] 41)
  have M8 := Lib.hid (hms.below ((Below.refl wb.heap.size wb).alloc (Nat.le_refl _) (.cells #[.map ob7] 41)))
  have A8 := Lib.hid (Blk.new wb 41 #[.map ob7])
  have hsz7 : wb.heap.size < (wb.alloc (.cells #[.map ob7] 41)).heap.size := by simp
  have HBD := Lib.hid hbd
  have BC := Lib.hid hbc
  clear hbd hms hbb hbc
  go_upto_region 22 with fail
  generalize (wb.alloc (.cells #[.map ob7] 41)) = w8 at BC M8 A8 hsz7 ⊢
  generalize wb.heap.size = p7 at A8 hsz7 ⊢
  have K8 := Lib.hid (K7.out.below BC.out)
  have V8 := Lib.hid (V7.out.below BC.out)
  have B8 := Lib.hid (B7.out.trans (BC.out.mono B7.out.size))
  clear K7 V7 B7 BC

  clear HBD
  go_wp2_with first | (go_at_call 12; refine (mtn_any _ _).mono ?_; rintro e w' ⟨rfl, rfl⟩) | (go_at_call 14; refine (imtn_any _ _).mono ?_; rintro e w' ⟨rfl, rfl⟩)
  go_ret
  exact ⟨rfl, B8.out⟩
end Go.Proofs.Ythlhfhcjfikflaa
