/-
  FnMapCopyEqualsOriginalExactly, walked. Conditions: as stated.
-/
import Derived.Test.YthlhfhcjfikflaaHp84
import Derived.Deep.DeepCutAuto
import Derived.IntWalk
namespace Go.Proofs.Ythlhfhcjfikflaa
open Go.RowKit Go.Maps Go.WideMaps
set_option maxRecDepth 100000
set_option linter.unusedVariables false

theorem wrap_ne (x : Int) (h1 : -9223372036854775808 ≤ x) (h2 : x ≤ 9223372036854775807) : IntKind.i64.wrap (x + 1) ≠ x := by
  by_cases h : x = 9223372036854775807
  · subst h
    decide
  · rw [IntWalk.i64_in _ (by omega)]
    omega

set_option maxHeartbeats 16000000 in
theorem law_cp (oK oV : Option Addr) (nk nv capK capV : Nat) (ks : List (List UInt8)) (vs : List Int) (nm : Bool) (w : World) (hnk : ks.length = nk) (hnv : vs.length = nv) (h1 : nk ≤ 9223372036854775807) (h2 : nv ≤ 9223372036854775807)
    (hK : RowAt strV w w.heap.size oK ks) (hV : RowAt intV w w.heap.size oV vs) (hnK : oK = none → ks = [] ∧ capK = 0) (hnV : oV = none → vs = [] ∧ capV = 0) (hl : ∀ z ∈ ks, z.length ≤ 9223372036854775807) (hr : ∀ z ∈ vs, -9223372036854775808 ≤ z ∧ z ≤ 9223372036854775807) :
    Calls Try.prog 5 #[.slice oK nk capK, .slice oV nv capV, .bool nm] w fun e w' => e = .returned (.bool true) ∧ Below w.heap.size w w' := by
  have HZB := Lib.hid (bytes_c oK oV capK capV nk nv nm ks w hnk h1 h2 hl hK)
  have HNK := Lib.hid hnk
  have HNV := Lib.hid hnv
  have HK := Lib.hid hK
  have HV := Lib.hid hV
  have HNN := Lib.hid (And.intro hnK hnV)
  have HR := Lib.hid hr
  have HML : Hid (∀ z ∈ ks, z.length ≤ maxLen) := Lib.hid (fun z hz => by have := hl z hz; unfold maxLen; omega)
  clear hnk hnv hK hV hnK hnV hr hl
  go_enter Try.func5, Try.ntmps5
  go_wp2_with (go_at_call 18; refine Hid.out ?_)
  refine Lib.hid ?_
  refine HZB.out.mono ?_
  rintro e w0 ⟨bb, rfl, hbb, rfl⟩
  have HBB := Lib.hid hbb
  clear hbb HZB
  cases bb
  · go_wp2_with fail
    go_ret
    exact ⟨rfl, Below.refl _ _⟩
  have HL := Lib.hid (HBB.out rfl)
  clear HBB
  by_cases g1 : nk ≤ 65536
  rotate_left
  · have t1 : decide ((nk : Int) > 65536) = true := by simp; omega
    go_wp2_with fail
    go_ret
    exact ⟨rfl, Below.refl _ _⟩
  by_cases g2 : nv ≤ 65536
  rotate_left
  · have t1 : decide ((nk : Int) > 65536) = false := by simp; omega
    have t2 : decide ((nv : Int) > 65536) = true := by simp; omega
    go_wp2_with fail
    go_ret
    exact ⟨rfl, Below.refl _ _⟩
  have HSZ := Lib.hid (size_any oK capK nk nv ks w HNK.out g1 g2 HL.out HK.out)
  go_wp2_with (go_at_call 7; refine Hid.out ?_)
  refine Lib.hid ?_
  refine HSZ.out.mono ?_
  rintro e w0 ⟨z, rfl, hz0, hz1, rfl⟩
  clear HSZ
  by_cases g3 : z ≤ 1048576
  rotate_left
  · have t3 : decide (z > 1048576) = true := by simp; omega
    go_wp2_with fail
    go_ret
    exact ⟨rfl, Below.refl _ _⟩
  have t3 : decide (z > 1048576) = false := by simp; omega
  have HCK : Hid (Calls Try.prog 8 #[.slice oK nk capK] w (CloneN strV ks nk w)) := Lib.hid (by
    have := clS_any oK capK ks w HK.out HNN.out.1 (by have := HNK.out; omega)
    rw [HNK.out] at this
    exact this.mono (fun _ _ h => CloneN.of HNK.out h))
  go_wp2_with (go_at_call 8; refine Hid.out ?_)
  refine Lib.hid ?_
  refine HCK.out.mono ?_
  rintro e w1 ⟨oK1, cK1, rfl, hk1, hb1⟩
  have K1 := Lib.hid hk1
  have B1 := Lib.hid hb1
  have HCV : Hid (Calls Try.prog 9 #[.slice oV nv capV] w1 (CloneN intV vs nv w1)) := Lib.hid (by
    have := clI_any oV capV vs w1 (HV.out.below hb1) HNN.out.2 (by have := HNV.out; omega) HR.out
    rw [HNV.out] at this
    exact this.mono (fun _ _ h => CloneN.of HNV.out h))
  clear hk1 hb1 HCK t3
  go_wp2_with (go_at_call 9; refine Hid.out ?_)
  refine Lib.hid ?_
  refine HCV.out.mono ?_
  rintro e w2 ⟨oV1, cV1, rfl, hv2, hb2⟩
  have K2 := Lib.hid (K1.out.below hb2)
  have V2 := Lib.hid hv2
  have B2 := Lib.hid (B1.out.trans (hb2.mono B1.out.size))
  clear hv2 hb2 HCV K1 B1
  obtain ⟨n, hn⟩ : ∃ n, min nk nv = n := ⟨_, rfl⟩
  have hn1 : n ≤ nk := by omega
  have hn2 : n ≤ nv := by omega
  have hn3 : n ≤ 65536 := by omega
  have HMN := Lib.hid (min_any nk nv n hn w2 g1 g2)
  clear hn h1 h2
  go_wp2_with (go_at_call 10; refine Hid.out ?_)
  refine Lib.hid ?_
  refine HMN.out.mono ?_
  rintro e w0 ⟨rfl, rfl⟩
  clear HMN HNN HK HV
  have HBL := Lib.hid (fun (b : Bool) (W : World) (k : RowAt strV W W.heap.size oK1 ks) (v : RowAt intV W W.heap.size oV1 vs) => build_any oK1 oV1 nk nv cK1 cV1 n ks vs b W HNK.out HNV.out k v hn1 hn2 hn3 HML.out)
  have hme := method_mtn
  have hmq := method_meq
  have hnq := nil_meq
  have hmf := method_mfal
  go_wp2_with (go_at_call 11; refine Hid.out ?_)
  refine Lib.hid ?_

  refine (HBL.out nm w2 K2.out V2.out).mono ?_
  rintro e wb ⟨v, rfl, hbd, hbb⟩
  obtain ⟨s2, hms⟩ := BuildPost.mapS hn3 hbd
  obtain ⟨ob2, rfl⟩ : ∃ o, v = .map o := by
    rcases hbd with ⟨_, _, rfl⟩ | ⟨_, b, D, rfl, _⟩
    · exact ⟨_, rfl⟩
    · exact ⟨_, rfl⟩
  have hbc := hbb.alloc hbb.size (.cells #[.map ob2] 35)
  have M3 := Lib.hid (hms.below ((Below.refl wb.heap.size wb).alloc (Nat.le_refl _) (.cells #[.map ob2] 35)))
  have A3 := Lib.hid (Blk.new wb 35 #[.map ob2])
  have hsz2 : wb.heap.size < (wb.alloc (.cells #[.map ob2] 35)).heap.size := by simp
  have HBD := Lib.hid hbd
  have BC := Lib.hid hbc
  clear hbd hms hbb hbc
  go_upto_region 11 with fail
  generalize (wb.alloc (.cells #[.map ob2] 35)) = w3 at BC M3 A3 hsz2 ⊢
  generalize wb.heap.size = p2 at A3 hsz2 ⊢

  have Mm_3 := M3
  have Am_3 := A3
  clear M3 A3 HBD
  have K3 := Lib.hid (K2.out.below BC.out)
  have V3 := Lib.hid (V2.out.below BC.out)
  have B3 := Lib.hid (B2.out.trans (BC.out.mono B2.out.size))
  clear K2 V2 B2 BC

  go_wp2_with (go_at_call 13; refine Hid.out ?_)
  refine Lib.hid ?_
  refine (mapCopy_any p2 s2 (.map ob2) (bldF ks vs n) w3 (Am_3.out.cell 0) Am_3.out.lt Mm_3.out).mono ?_
  rintro e w4 ⟨pc, bc, nc, Dc, rfl, hac, hnc, hmc, hbl⟩
  have BC := Lib.hid hbl
  have Mc_4 : Hid (MapS w4 (.map (some bc)) (size Dc) (bldF ks vs n)) := Lib.hid (Or.inr ⟨bc, nc, Dc, rfl, hnc, rfl, hmc⟩)
  have Ac_4 := Lib.hid hac
  clear hbl hmc hac
  have K4 := Lib.hid (K3.out.below BC.out)
  have V4 := Lib.hid (V3.out.below BC.out)
  have B4 := Lib.hid (B3.out.trans (BC.out.mono B3.out.size))
  have Mm_4 := Lib.hid (Mm_3.out.below BC.out)
  have Am_4 := Lib.hid (Am_3.out.same (BC.out.block _ Am_3.out.lt))
  clear K3 V3 B3 Mm_3 Am_3 BC

  generalize size Dc = sc at Mc_4
  have HE := Lib.hid ((mapEq_any pc p2 (.map (some bc)) (.map ob2) sc s2 (bldF ks vs n) (bldF ks vs n) w4 (Ac_4.out.cell 0) (Am_4.out.cell 0) Mc_4.out Mm_4.out).mono (fun _ _ h => h.yes (eqm_same Mc_4.out Mm_4.out)))
  go_wp2_with first | (go_at_call 12; refine (mtn_any _ _).mono ?_; rintro e w' ⟨rfl, rfl⟩) | (go_at_call 17; refine Hid.out ?_)
  refine Lib.hid ?_
  refine HE.out.mono ?_
  rintro e w5 ⟨rfl, hbl⟩
  have BC := Lib.hid hbl
  clear hbl HE
  have K5 := Lib.hid (K4.out.below BC.out)
  have V5 := Lib.hid (V4.out.below BC.out)
  have B5 := Lib.hid (B4.out.trans (BC.out.mono B4.out.size))
  have Mm_5 := Lib.hid (Mm_4.out.below BC.out)
  have Am_5 := Lib.hid (Am_4.out.same (BC.out.block _ Am_4.out.lt))
  have Mc_5 := Lib.hid (Mc_4.out.below BC.out)
  have Ac_5 := Lib.hid (Ac_4.out.same (BC.out.block _ Ac_4.out.lt))
  clear K4 V4 B4 Mm_4 Am_4 Mc_4 Ac_4 BC

  have HE := Lib.hid ((mapEq_any p2 pc (.map ob2) (.map (some bc)) s2 sc (bldF ks vs n) (bldF ks vs n) w5 (Am_5.out.cell 0) (Ac_5.out.cell 0) Mm_5.out Mc_5.out).mono (fun _ _ h => h.yes (eqm_same Mm_5.out Mc_5.out)))
  go_wp2_with (go_at_call 17; refine Hid.out ?_)
  refine Lib.hid ?_
  refine HE.out.mono ?_
  rintro e w6 ⟨rfl, hbl⟩
  have BC := Lib.hid hbl
  clear hbl HE
  have K6 := Lib.hid (K5.out.below BC.out)
  have V6 := Lib.hid (V5.out.below BC.out)
  have B6 := Lib.hid (B5.out.trans (BC.out.mono B5.out.size))
  have Mm_6 := Lib.hid (Mm_5.out.below BC.out)
  have Am_6 := Lib.hid (Am_5.out.same (BC.out.block _ Am_5.out.lt))
  have Mc_6 := Lib.hid (Mc_5.out.below BC.out)
  have Ac_6 := Lib.hid (Ac_5.out.same (BC.out.block _ Ac_5.out.lt))
  clear K5 V5 B5 Mm_5 Am_5 Mc_5 Ac_5 BC

  have HFA := Lib.hid (mfal_any pc (.map (some bc)) sc (bldF ks vs n) w6 (Ac_6.out.cell 0) Mc_6.out)
  have HDI := Lib.hid (dis_any oK1 nk cK1 n ks w6 HNK.out hn1 hn3 HL.out K6.out)
  have HSC : Hid (sc = 0 ↔ n = 0) := Lib.hid (Mc_6.out.zero_iff.trans (bldF_none ks vs n))
  by_cases hn0 : n = 0
  · have e1 : decide (sc = 0) = true := decide_eq_true (HSC.out.2 hn0)
    rw [e1] at HFA
    have t0 : decide ((n : Int) > 0) = false := by simp; omega
    have t0b : decide (0 < n) = false := by simp; omega
    have t0c : ¬ 0 < n := by omega
    have HN0 := Lib.hid hn0
    clear e1 hn0
    go_wp2_with (go_at_call 36; refine Hid.out ?_)
    refine Lib.hid ?_
    refine HFA.out.mono ?_
    rintro e w0 ⟨rfl, rfl⟩
    go_wp2_with (go_at_call 19; refine Hid.out ?_)
    refine Lib.hid ?_
    refine HDI.out.mono ?_
    rintro e w7 ⟨d, rfl, hdn, hd0, hbl⟩
    have td : ((d : Int) == 0) = true := by
      have := hd0.2 HN0.out
      simp [this]
    have BC := Lib.hid hbl
    clear hbl HFA HDI hd0 hdn Mc_6 Ac_6
    have K7 := Lib.hid (K6.out.below BC.out)
    have V7 := Lib.hid (V6.out.below BC.out)
    have B7 := Lib.hid (B6.out.trans (BC.out.mono B6.out.size))
    have Mm_7 := Lib.hid (Mm_6.out.below BC.out)
    have Am_7 := Lib.hid (Am_6.out.same (BC.out.block _ Am_6.out.lt))
    clear K6 V6 B6 Mm_6 Am_6 BC
    go_wp2_with (go_at_call 11; refine Hid.out ?_)
    refine Lib.hid ?_

    refine (HBL.out nm w7 K7.out V7.out).mono ?_
    rintro e wb ⟨v, rfl, hbd, hbb⟩
    obtain ⟨s9, hms⟩ := BuildPost.mapS hn3 hbd
    obtain ⟨ob9, rfl⟩ : ∃ o, v = .map o := by
      rcases hbd with ⟨_, _, rfl⟩ | ⟨_, b, D, rfl, _⟩
      · exact ⟨_, rfl⟩
      · exact ⟨_, rfl⟩
    have hbc := hbb.alloc hbb.size (.cells #[.map ob9] 35)
    have Mz := Lib.hid (hms.below ((Below.refl wb.heap.size wb).alloc (Nat.le_refl _) (.cells #[.map ob9] 35)))
    have Az := Lib.hid (Blk.new wb 35 #[.map ob9])
    have Mm := Lib.hid (Mm_7.out.below hbc)
    have Am := Lib.hid (Am_7.out.same (hbc.block _ Am_7.out.lt))
    have Bz := Lib.hid (B7.out.trans (hbc.mono B7.out.size))
    clear hbd hms hbb hbc K7 V7 B7 Mm_7 Am_7
    go_wp2_with (go_at_call 17; refine Hid.out ?_)
    refine Lib.hid ?_
    generalize (wb.alloc (.cells #[.map ob9] 35)) = wz at Mz Az Mm Am Bz ⊢
    generalize wb.heap.size = pz at Az ⊢
    have HE := Lib.hid ((mapEq_any p2 pz (.map ob2) (.map ob9) s2 s9 (bldF ks vs n) (bldF ks vs n) wz (Am.out.cell 0) (Az.out.cell 0) Mm.out Mz.out).mono (fun _ _ h => h.yes (eqm_same Mm.out Mz.out)))
    refine HE.out.mono ?_
    rintro e wq ⟨rfl, hbl⟩
    have Bq := Lib.hid (Bz.out.trans (hbl.mono Bz.out.size))
    clear hbl HE
    go_wp2_with fail
    go_ret
    exact ⟨rfl, Bq.out⟩
  · have e1 : decide (sc = 0) = false := decide_eq_false (fun h => hn0 (HSC.out.1 h))
    rw [e1] at HFA
    have t0 : decide ((n : Int) > 0) = true := by simp; omega
    have t0b : decide (0 < n) = true := by simp; omega
    have t0c : 0 < n := by omega
    have HN0 := Lib.hid hn0
    clear e1 hn0
    go_wp2_with (go_at_call 36; refine Hid.out ?_)
    refine Lib.hid ?_
    refine HFA.out.mono ?_
    rintro e w0 ⟨rfl, rfl⟩
    go_wp2_with (go_at_call 19; refine Hid.out ?_)
    refine Lib.hid ?_
    refine HDI.out.mono ?_
    rintro e w7 ⟨d, rfl, hdn, hd0, hbl⟩
    have td : ((d : Int) == 0) = false := by
      have : d ≠ 0 := fun h => HN0.out (hd0.1 h)
      simp
      omega
    have BC := Lib.hid hbl
    clear hbl HFA HDI hd0 hdn
    have K7 := Lib.hid (K6.out.below BC.out)
    have V7 := Lib.hid (V6.out.below BC.out)
    have B7 := Lib.hid (B6.out.trans (BC.out.mono B6.out.size))
    have Mm_7 := Lib.hid (Mm_6.out.below BC.out)
    have Am_7 := Lib.hid (Am_6.out.same (BC.out.block _ Am_6.out.lt))
    have Mc_7 := Lib.hid (Mc_6.out.below BC.out)
    have Ac_7 := Lib.hid (Ac_6.out.same (BC.out.block _ Ac_6.out.lt))
    clear K6 V6 B6 Mm_6 Am_6 Mc_6 Ac_6 BC
    go_wp2_with (go_at_call 11; refine Hid.out ?_)
    refine Lib.hid ?_

    refine (HBL.out false w7 K7.out V7.out).mono ?_
    rintro e w8 ⟨v, rfl, hbd, hbb⟩
    obtain ⟨b3, D3, rfl, hge, hmi⟩ : ∃ b D, v = .map (some b) ∧ w7.heap.size ≤ b ∧ MI w8 b n D (bldF ks vs n) := by
      rcases hbd with ⟨h, _⟩ | ⟨_, h⟩
      · cases h
      · exact h
    have K8 := K7.out.below hbb
    have V8 := V7.out.below hbb
    obtain ⟨kb, ko, ek, hkb, hkc⟩ := K8.at_ (by have := HNK.out; omega)
    obtain ⟨vb, vo, ev, hvb, hvc⟩ := V8.at_ (by have := HNV.out; omega)
    have hkl : n - 1 < ks.length := by have := HNK.out; omega
    have hvl : n - 1 < vs.length := by have := HNV.out; omega
    obtain ⟨j, hj⟩ : ∃ j, n - 1 = j := ⟨_, rfl⟩
    have d1 : w8.cell? ⟨kb, ko + j, none⟩ = some (.string ⟨(ks.getD j []).toArray⟩) := by
      rw [← hj, hkc (n - 1) hkl]
      simp [List.getD, hkl, strV]
    have d2 : w8.cell? ⟨vb, vo + j, none⟩ = some (.int .i64 (vs.getD j 0)) := by
      rw [← hj, hvc (n - 1) hvl]
      simp [List.getD, hvl, intV]
    have hln : (ks.getD j []).length ≤ maxLen := by
      rw [← hj, List.getD, List.getElem?_eq_getElem hkl]
      exact HML.out _ (List.getElem_mem _)
    have hvr : -9223372036854775808 ≤ vs.getD j 0 ∧ vs.getD j 0 ≤ 9223372036854775807 := by
      rw [← hj, List.getD, List.getElem?_eq_getElem hvl]
      exact HR.out _ (List.getElem_mem _)
    have HFK : Hid ((bldF ks vs n) (.string (ks.getD j [])) = some (vs.getD j 0)) := Lib.hid (by
      have : n = j + 1 := by omega
      rw [this]
      exact updF_same _ _ _ trivial)
    have hs1 : (n : Int) - 1 = (j : Int) := by omega
    have hw1 : IntKind.i64.wrap (j : Int) = (j : Int) := IntWalk.i64_in _ (by omega)
    have i1 : (j : Int) < (nk : Int) := by omega
    have i2 : (j : Int) < (nv : Int) := by omega
    have i0 : (0 : Int) ≤ (j : Int) := by omega
    clear hj hkc hvc hkl hvl
    subst ek
    subst ev
    generalize ks.getD j [] = s at d1 hln HFK
    generalize vs.getD j 0 = x at d2 hvr HFK
    obtain ⟨x2, hx2⟩ : ∃ x2, IntKind.i64.wrap (x + 1) = x2 := ⟨_, rfl⟩
    have HNE : Hid (x2 ≠ x) := Lib.hid (by rw [← hx2]; exact wrap_ne x hvr.1 hvr.2)
    have hwm := hbb.size
    have hblt := hmi.own.lt
    have HA := Lib.hid (hmi.below (w' := (w8.alloc (.cells #[.int .i64 x2] 48)).drew) ((Below.refl _ _).alloc (Nat.le_refl _) _).drew)
    have HI : Hid (Blk (w8.alloc (.cells #[.int .i64 x2] 48)).drew w8.heap.size 48 #[.int .i64 x2]) := Lib.hid (Blk.new w8 48 #[.int .i64 x2])
    have HBA := Lib.hid ((hbb.alloc hwm (.cells #[.int .i64 x2] 48)).drew)
    have q1 : w8.drew.cell? ⟨kb, ko + j, none⟩ = some (.string ⟨s.toArray⟩) := d1
    have q2 : w8.drew.cell? ⟨vb, vo + j, none⟩ = some (.int .i64 x) := d2
    obtain ⟨w9, hrun, hown2, hg2⟩ := HA.out.own.update lawS Try.underlying30 (by unfold maxLen; omega) (keyS s hln) (ptrElem_mk 46 w8.heap.size)
    have hkne : kb ≠ b3 := by
      rintro rfl
      obtain ⟨es, clock, hh, _⟩ := hmi.own
      simp [World.cell?, hh] at d1
    have hvne : vb ≠ b3 := by
      rintro rfl
      obtain ⟨es, clock, hh, _⟩ := hmi.own
      simp [World.cell?, hh] at d2
    have g1 : w9.cell? ⟨kb, ko + j, none⟩ = some (.string ⟨s.toArray⟩) := (World.cell?_of_block (w := (w8.alloc (.cells #[.int .i64 x2] 48)).drew) (a := ⟨kb, ko + j, none⟩) (hg2.block kb (by simp; omega) (by simpa using hkne))).trans ((World.cell?_of_block (w := w8) (a := ⟨kb, ko + j, none⟩) (Below.heap_alloc w8 (.cells #[.int .i64 x2] 48) kb (by omega))).trans d1)
    have g2 : w9.cell? ⟨vb, vo + j, none⟩ = some (.int .i64 x) := (World.cell?_of_block (w := (w8.alloc (.cells #[.int .i64 x2] 48)).drew) (a := ⟨vb, vo + j, none⟩) (hg2.block vb (by simp; omega) (by simpa using hvne))).trans ((World.cell?_of_block (w := w8) (a := ⟨vb, vo + j, none⟩) (Below.heap_alloc w8 (.cells #[.int .i64 x2] 48) vb (by omega))).trans d2)
    have Mp := Lib.hid (HA.out.put (v := x2) hown2 hg2 trivial HI.out)
    have BC := Lib.hid (HBA.out.grown hg2 (by have := HBA.out.size; exact this) (fun j hj => by cases hj; exact hge))
    have hg9 : w8.heap.size ≤ w9.heap.size := by have := hg2.size; simp at this; omega
    have HK8 := Lib.hid K8
    have HV8 := Lib.hid V8
    clear hown2 hg2 hmi hbd hbb HI HA HBA K8 V8 hkne hvne
    go_wp2_with fail
    go_region_held3 (fun w' => w'.cell? ⟨kb, ko + j, none⟩ = some (.string ⟨s.toArray⟩) ∧ w'.cell? ⟨vb, vo + j, none⟩ = some (.int .i64 x)) (first | exact ⟨by assumption, by assumption⟩ | go_keep) (fail)
    have C9 := Lib.hid g1
    have hkb9 : kb < w9.heap.size := Nat.lt_of_lt_of_le hkb (by have := hg9; omega)
    have Mp_9 : Hid (MapS w9 (.map (some b3)) (size (D3.put (.string s) (.lit (.int .i64 (w8.heap.size : Int))))) (updF (bldF ks vs n) (.string s) (some x2))) := Lib.hid (Or.inr ⟨b3, n + 1, _, rfl, by omega, rfl, Mp.out⟩)
    generalize (size (D3.put (.string s) (.lit (.int .i64 (w8.heap.size : Int))))) = s3 at Mp_9
    clear hrun q1 q2 g1 g2 d1 d2 HK8 HV8 hx2 Mp hkb hvb
    have K9 := Lib.hid (K7.out.below BC.out)
    have V9 := Lib.hid (V7.out.below BC.out)
    have B9 := Lib.hid (B7.out.trans (BC.out.mono B7.out.size))
    have Mm_9 := Lib.hid (Mm_7.out.below BC.out)
    have Am_9 := Lib.hid (Am_7.out.same (BC.out.block _ Am_7.out.lt))
    have Mc_9 := Lib.hid (Mc_7.out.below BC.out)
    have Ac_9 := Lib.hid (Ac_7.out.same (BC.out.block _ Ac_7.out.lt))
    clear K7 V7 B7 Mm_7 Am_7 Mc_7 Ac_7 BC

    have hwm9 := (Below.refl w9.heap.size w9).alloc (Nat.le_refl _) (.cells #[.map (some b3)] 35)
    have BC := Lib.hid hwm9
    have Ap_10 := Lib.hid (Blk.new w9 35 #[.map (some b3)])
    clear hwm9
    go_wp2_with (go_at_call 17; refine Hid.out ?_)
    refine Lib.hid ?_
    generalize (w9.alloc (.cells #[.map (some b3)] 35)) = w10 at BC Ap_10 ⊢
    have C10 : Hid (w10.cell? ⟨kb, ko + j, none⟩ = some (.string ⟨s.toArray⟩)) := Lib.hid ((BC.out.cell (p := ⟨kb, ko + j, none⟩) hkb9).trans C9.out)
    have hkb10 : kb < w10.heap.size := Nat.lt_of_lt_of_le hkb9 BC.out.size
    clear C9 hkb9
    have K10 := Lib.hid (K9.out.below BC.out)
    have V10 := Lib.hid (V9.out.below BC.out)
    have B10 := Lib.hid (B9.out.trans (BC.out.mono B9.out.size))
    have Mm_10 := Lib.hid (Mm_9.out.below BC.out)
    have Am_10 := Lib.hid (Am_9.out.same (BC.out.block _ Am_9.out.lt))
    have Mc_10 := Lib.hid (Mc_9.out.below BC.out)
    have Ac_10 := Lib.hid (Ac_9.out.same (BC.out.block _ Ac_9.out.lt))
    have Mp_10 := Lib.hid (Mp_9.out.below BC.out)
    clear K9 V9 B9 Mm_9 Am_9 Mc_9 Ac_9 Mp_9 BC

    have HE := Lib.hid ((mapEq_any pc w9.heap.size (.map (some bc)) (.map (some b3)) sc s3 (bldF ks vs n) (updF (bldF ks vs n) (.string s) (some x2)) w10 (Ac_10.out.cell 0) (Ap_10.out.cell 0) Mc_10.out Mp_10.out).mono (fun _ _ h => h.no (fun hm => by
      have h1 := hm.2 _ _ HFK.out
      rw [updF_same _ (.string s) _ trivial] at h1
      exact HNE.out (Option.some.inj h1))))
    refine HE.out.mono ?_
    rintro e w11 ⟨rfl, hbl⟩
    have BC := Lib.hid hbl
    have C11 : Hid (w11.cell? ⟨kb, ko + j, none⟩ = some (.string ⟨s.toArray⟩)) := Lib.hid ((hbl.cell (p := ⟨kb, ko + j, none⟩) hkb10).trans C10.out)
    have hkb11 : kb < w11.heap.size := Nat.lt_of_lt_of_le hkb10 hbl.size
    clear hbl HE Mp_10 Ap_10 C10 hkb10
    have K11 := Lib.hid (K10.out.below BC.out)
    have V11 := Lib.hid (V10.out.below BC.out)
    have B11 := Lib.hid (B10.out.trans (BC.out.mono B10.out.size))
    have Mm_11 := Lib.hid (Mm_10.out.below BC.out)
    have Am_11 := Lib.hid (Am_10.out.same (BC.out.block _ Am_10.out.lt))
    have Mc_11 := Lib.hid (Mc_10.out.below BC.out)
    have Ac_11 := Lib.hid (Ac_10.out.same (BC.out.block _ Ac_10.out.lt))
    clear K10 V10 B10 Mm_10 Am_10 Mc_10 Ac_10 BC
    go_wp2_with (go_at_call 11; refine Hid.out ?_)
    refine Lib.hid ?_

    refine (HBL.out false w11 K11.out V11.out).mono ?_
    rintro e w12 ⟨v, rfl, hbd, hbb⟩
    obtain ⟨b4, D4, rfl, hge, hmi⟩ : ∃ b D, v = .map (some b) ∧ w11.heap.size ≤ b ∧ MI w12 b n D (bldF ks vs n) := by
      rcases hbd with ⟨h, _⟩ | ⟨_, h⟩
      · cases h
      · exact h
    have d1 : w12.cell? ⟨kb, ko + j, none⟩ = some (.string ⟨s.toArray⟩) := (hbb.cell (p := ⟨kb, ko + j, none⟩) hkb11).trans C11.out
    have HMI := Lib.hid hmi
    have HBB := Lib.hid hbb
    clear hbd hmi hbb C11 hkb11
    go_wp2_with first | (at_delete; refine wpList_delete_own _ rfl _ _ 30 9 rfl 38 lawS Try.underlying30 (ptrElem 46) b4 n D4 rfl HMI.out.own _ (.string s) rfl (keyS s hln) ?_; intro w13 hown13 hturn13; have Md := Lib.hid (HMI.out.del hown13 hturn13.grown trivial); have BC := Lib.hid (HBB.out.grown hturn13.grown HBB.out.size (fun j hj => by cases hj; exact hge)); clear hown13 hturn13 d1 HMI HBB) | (go_at_call 17; refine Hid.out ?_)
    refine Lib.hid ?_
    have Md_13 : Hid (MapS w13 (.map (some b4)) (size (D4.del (.string s))) (updF (bldF ks vs n) (.string s) none)) := Lib.hid (Or.inr ⟨b4, n, _, rfl, by omega, rfl, Md.out⟩)
    generalize (size (D4.del (.string s))) = s4 at Md_13
    clear Md
    have K13 := Lib.hid (K11.out.below BC.out)
    have V13 := Lib.hid (V11.out.below BC.out)
    have B13 := Lib.hid (B11.out.trans (BC.out.mono B11.out.size))
    have Mm_13 := Lib.hid (Mm_11.out.below BC.out)
    have Am_13 := Lib.hid (Am_11.out.same (BC.out.block _ Am_11.out.lt))
    have Mc_13 := Lib.hid (Mc_11.out.below BC.out)
    have Ac_13 := Lib.hid (Ac_11.out.same (BC.out.block _ Ac_11.out.lt))
    clear K11 V11 B11 Mm_11 Am_11 Mc_11 Ac_11 BC

    have BC := Lib.hid ((Below.refl w13.heap.size w13).alloc (Nat.le_refl _) (.cells #[.map (some b4)] 35))
    have Ad_14 := Lib.hid (Blk.new w13 35 #[.map (some b4)])
    generalize (w13.alloc (.cells #[.map (some b4)] 35)) = w14 at BC Ad_14 ⊢
    have K14 := Lib.hid (K13.out.below BC.out)
    have V14 := Lib.hid (V13.out.below BC.out)
    have B14 := Lib.hid (B13.out.trans (BC.out.mono B13.out.size))
    have Mm_14 := Lib.hid (Mm_13.out.below BC.out)
    have Am_14 := Lib.hid (Am_13.out.same (BC.out.block _ Am_13.out.lt))
    have Mc_14 := Lib.hid (Mc_13.out.below BC.out)
    have Ac_14 := Lib.hid (Ac_13.out.same (BC.out.block _ Ac_13.out.lt))
    have Md_14 := Lib.hid (Md_13.out.below BC.out)
    clear K13 V13 B13 Mm_13 Am_13 Mc_13 Ac_13 Md_13 BC

    have HE := Lib.hid ((mapEq_any pc w13.heap.size (.map (some bc)) (.map (some b4)) sc s4 (bldF ks vs n) (updF (bldF ks vs n) (.string s) none) w14 (Ac_14.out.cell 0) (Ad_14.out.cell 0) Mc_14.out Md_14.out).mono (fun _ _ h => h.no (fun hm => by
      have h1 := hm.2 _ _ HFK.out
      rw [updF_same _ (.string s) _ trivial] at h1
      cases h1)))
    refine HE.out.mono ?_
    rintro e w15 ⟨rfl, hbl⟩
    have BC := Lib.hid hbl
    clear hbl HE Md_14 Ad_14 Mc_14 Ac_14
    have K15 := Lib.hid (K14.out.below BC.out)
    have V15 := Lib.hid (V14.out.below BC.out)
    have B15 := Lib.hid (B14.out.trans (BC.out.mono B14.out.size))
    have Mm_15 := Lib.hid (Mm_14.out.below BC.out)
    have Am_15 := Lib.hid (Am_14.out.same (BC.out.block _ Am_14.out.lt))
    clear K14 V14 B14 Mm_14 Am_14 BC
    go_wp2_with (go_at_call 11; refine Hid.out ?_)
    refine Lib.hid ?_

    refine (HBL.out nm w15 K15.out V15.out).mono ?_
    rintro e wb ⟨v, rfl, hbd, hbb⟩
    obtain ⟨s9, hms⟩ := BuildPost.mapS hn3 hbd
    obtain ⟨ob9, rfl⟩ : ∃ o, v = .map o := by
      rcases hbd with ⟨_, _, rfl⟩ | ⟨_, b, D, rfl, _⟩
      · exact ⟨_, rfl⟩
      · exact ⟨_, rfl⟩
    have hbc := hbb.alloc hbb.size (.cells #[.map ob9] 35)
    have Mz := Lib.hid (hms.below ((Below.refl wb.heap.size wb).alloc (Nat.le_refl _) (.cells #[.map ob9] 35)))
    have Az := Lib.hid (Blk.new wb 35 #[.map ob9])
    have Mm := Lib.hid (Mm_15.out.below hbc)
    have Am := Lib.hid (Am_15.out.same (hbc.block _ Am_15.out.lt))
    have Bz := Lib.hid (B15.out.trans (hbc.mono B15.out.size))
    clear hbd hms hbb hbc K15 V15 B15 Mm_15 Am_15
    go_wp2_with (go_at_call 17; refine Hid.out ?_)
    refine Lib.hid ?_
    generalize (wb.alloc (.cells #[.map ob9] 35)) = wz at Mz Az Mm Am Bz ⊢
    generalize wb.heap.size = pz at Az ⊢
    have HE := Lib.hid ((mapEq_any p2 pz (.map ob2) (.map ob9) s2 s9 (bldF ks vs n) (bldF ks vs n) wz (Am.out.cell 0) (Az.out.cell 0) Mm.out Mz.out).mono (fun _ _ h => h.yes (eqm_same Mm.out Mz.out)))
    refine HE.out.mono ?_
    rintro e wq ⟨rfl, hbl⟩
    have Bq := Lib.hid (Bz.out.trans (hbl.mono Bz.out.size))
    clear hbl HE
    go_wp2_with fail
    go_ret
    exact ⟨rfl, Bq.out⟩
end Go.Proofs.Ythlhfhcjfikflaa
