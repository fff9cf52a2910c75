/-
  FnFindLineEndLeavesScannerAsFound, walked. Conditions: the token table reads as laid.
-/
import Derived.Test.YthhmkkpginddbaaFmtPrep
namespace Go.Proofs.YthhmkkpginddbaaFmt
open Go.RowKit
set_option maxRecDepth 100000
set_option linter.unusedVariables false

theorem ret_t {p : Prop} [Decidable p] (h : p) : Ending.returned (.bool true) = .returned (.bool (decide p)) := by rw [decide_eq_true h]
theorem ret_f {p : Prop} [Decidable p] (h : ¬ p) : Ending.returned (.bool false) = .returned (.bool (decide p)) := by rw [decide_eq_false h]
theorem ss_lt {src : List UInt8} {i : Nat} (h : ss src i) : i + 1 < src.length := h.2.1
set_option maxHeartbeats 400000 in
theorem bytes_fl2 (o0 : Option Addr) (n0 cap0 : Nat) (w : World) (h0 : n0 ≤ 9223372036854775807) :
    Calls Tryf.prog 22 #[.slice o0 n0 cap0] w fun e w' => e = .returned (.bool (decide (n0 ≤ 1048576))) ∧ w = w' := by
  go_enter Tryf.func22, Tryf.ntmps22
  go_wp2
  all_goals (go_ret; first | exact ⟨ret_t (by omega), rfl⟩ | exact ⟨ret_f (by omega), rfl⟩)

set_option maxHeartbeats 400000 in
theorem zzrd_any (F : Fix) (src : List UInt8) (s : St) (w : World) (h : SC F src s w) :
    Calls Tryf.prog 23 #[.pointer (some ⟨F.gS, 0, none⟩)] w fun e w' => e = .returned (.int .i64 (s.rd : Int)) ∧ w = w' := by
  have c : w.cell? ⟨F.gS, 4, none⟩ = some (.int .i64 (s.rd : Int)) := by rw [h.blkS.cell]; rfl
  clear h
  go_enter Tryf.func23, Tryf.ntmps23
  go_wp2
  go_ret
  exact ⟨rfl, rfl⟩

set_option maxHeartbeats 400000 in
theorem zzsemi_any (F : Fix) (src : List UInt8) (s : St) (w : World) (h : SC F src s w) :
    Calls Tryf.prog 19 #[.pointer (some ⟨F.gS, 0, none⟩)] w fun e w' => e = .returned (.bool s.semi) ∧ w = w' := by
  have c : w.cell? ⟨F.gS, 6, none⟩ = some (.bool s.semi) := by rw [h.blkS.cell]; rfl
  clear h
  go_enter Tryf.func19, Tryf.ntmps19
  go_wp2
  go_ret
  exact ⟨rfl, rfl⟩

set_option maxHeartbeats 400000 in
theorem zzfle_any (Fx : Fix) (src : List UInt8) (s : St) (w : World) (h : Calls Tryf.prog 34 #[.pointer (some ⟨Fx.gS, 0, none⟩)] w (FlePost Fx src s w)) :
    Calls Tryf.prog 20 #[.pointer (some ⟨Fx.gS, 0, none⟩)] w (FlePost Fx src s w) := by
  have HC := Lib.hid h
  clear h
  go_enter Tryf.func20, Tryf.ntmps20
  go_wp2_with fail
  refine HC.out.mono ?_
  rintro e w2 ⟨b, u, rfl, h1, h2, h3⟩
  have H := Lib.hid (And.intro h1 (And.intro h2 h3))
  clear h1 h2 h3
  go_wp2
  go_ret
  exact ⟨b, u, rfl, H.out.1, H.out.2.1, H.out.2.2⟩
theorem SkipR.way {src : List UInt8} {s u : St} (h : SkipR src s u) (hg : Good src s) : SkWay src s u := by
  induction h with
  | stop _ => exact SkWay.refl hg
  | step hw _ ih =>
    have hn := (SkWay.refl hg).next (wsp_pos hw)
    exact hn.trans (ih hn.good)
theorem BlkN.way {src : List UInt8} {s u : St} {k : Nat} (h : BlkN src s u k) (hg : Good src s) : SkWay src s u := by
  induction h with
  | eof _ => exact SkWay.refl hg
  | nl _ => exact SkWay.refl hg
  | @shut s h1 h2 => exact ((SkWay.refl hg).next (by omega)).next (by omega)
  | @step s u k h1 _ _ _ ih =>
    have hn := (SkWay.refl hg).next h1
    exact hn.trans (ih hn.good)
theorem FleR.way {src : List UInt8} {s u : St} {b : Bool} (h : FleR src s b u) (hg : Good src s) : SkWay src s u := by
  induction h with
  | slash _ => exact SkWay.refl hg
  | other _ _ => exact SkWay.refl hg
  | @line s u h1 h2 =>
    have hn := (SkWay.refl hg).next (by omega)
    exact hn.trans (h2.way hn.good)
  | @endT s u v k h1 h2 _ h3 _ =>
    have hn := (SkWay.refl hg).next (by omega)
    have hm := hn.trans (h2.way hn.good)
    exact hm.trans (h3.way hm.good)
  | @stopF s u v k h1 h2 _ h3 _ _ _ =>
    have hn := (SkWay.refl hg).next (by omega)
    have hm := hn.trans (h2.way hn.good)
    exact hm.trans (h3.way hm.good)
  | @more s u v z k b h1 h2 _ h3 h4 _ ih =>
    have hn := (SkWay.refl hg).next (by omega)
    have hm := hn.trans (h2.way hn.good)
    have hq := (hm.trans (h3.way hm.good)).next (by omega)
    exact hq.trans (ih hq.good)
theorem nx_at (src : List UInt8) (s : St) (h : s.rd < src.length) : (nx src s).off = s.rd ∧ (nx src s).rd = s.rd + (rn src s.rd).2 ∧ (nx src s).ch = ((rn src s.rd).1 : Int) ∧ (nx src s).ec ≤ s.ec + 1 := by
  refine ⟨?_, ?_, ?_, nx_ec src s⟩
  all_goals
    unfold nx
    rw [if_pos h]
theorem lc_ex (src : List UInt8) (p : Nat) : ∀ (d m : Nat), src.length - m = d → p + 2 ≤ m → m ≤ src.length → (∀ i, p + 2 ≤ i → i < m → bt src i ≠ 10) → ∃ k, LcEnd src p k := by
  intro d
  induction d with
  | zero => exact fun m h1 h2 h3 h4 => ⟨m, h2, h3, h4, fun h => by omega⟩
  | succ d ih =>
    intro m h1 h2 h3 h4
    by_cases h : bt src m = 10
    · exact ⟨m, h2, h3, h4, fun _ => h⟩
    · refine ih (m + 1) (by omega) (by omega) (by omega) (fun i i1 i2 => ?_)
      by_cases e : i = m
      · rw [e]
        exact h
      · exact h4 i i1 (by omega)
theorem bc_ex (src : List UInt8) (p : Nat) (hp : p + 2 ≤ src.length) : ∀ (d m : Nat), src.length - m = d → p + 2 ≤ m → m ≤ src.length → (∀ i, p + 2 ≤ i → i < m → ¬ ss src i) → ∃ k c, BcEnd src p k c := by
  intro d
  induction d with
  | zero => exact fun m h1 h2 h3 h4 => ⟨src.length, false, hp, Nat.le_refl _, fun i i1 i2 => h4 i i1 (by omega), (fun h => nomatch h), fun _ => ⟨rfl, fun i i1 hs => by
      rcases Nat.lt_or_ge i m with hl | hl
      · exact h4 i i1 hl hs
      · have := ss_lt hs
        omega⟩⟩
  | succ d ih =>
    intro m h1 h2 h3 h4
    by_cases h : ss src m
    · have := ss_lt h
      exact ⟨m + 2, true, by omega, by omega, fun i i1 i2 => h4 i i1 (by omega), fun _ => ⟨by omega, h⟩, (fun h => nomatch h)⟩
    · refine ih (m + 1) (by omega) (by omega) (by omega) (fun i i1 i2 => ?_)
      by_cases e : i = m
      · rw [e]
        exact h
      · exact h4 i i1 (by omega)
/-- the comment at byte 1: its text and its end hang on the source alone -/
theorem com_ex (src : List UInt8) (hl : 3 ≤ src.length) (h1 : bt src 1 = 47) (h2 : bt src 2 = 47 ∨ bt src 2 = 42) :
    ∃ (txt : List UInt8) (k : Nat), k ≤ src.length ∧ ∀ (F : Fix) (s : St) (w : World), SC F src s w → Good src s → s.off = 2 → s.ec ≤ 1000000000 → Calls Tryf.prog 24 #[.pointer (some ⟨F.gS, 0, none⟩)] w (ComPost F src txt k s.ec w) := by
  rcases h2 with h2 | h2
  · obtain ⟨k, hk⟩ := lc_ex src 1 _ 3 rfl (by omega) hl (fun i i1 i2 => by omega)
    exact ⟨_, k, hk.hi, fun F s w a b c d => zzcom_any F src _ k s.ec w (comLine_any F src s 1 k w a b c h1 h2 (by omega) hk d)⟩
  · obtain ⟨k, cl, hk⟩ := bc_ex src 1 hl _ 3 rfl (by omega) hl (fun i i1 i2 => by omega)
    exact ⟨_, k, hk.hi, fun F s w a b c d => zzcom_any F src _ k s.ec w (comBlk_any F src s 1 k cl w a b c h1 h2 (by omega) hk d)⟩

set_option maxHeartbeats 4000000 in
theorem law_fl2 (oA : Option Addr) (cap : Nat) (l : List UInt8) (w : World) (hcap : l.length ≤ cap) (hmax : cap ≤ maxLen) (hsrc : SrcAt w w.heap.size oA l) (hnil : oA = none → l = [] ∧ cap = 0)
    (htab : Lib.Utf8Tabs 1 2 w) (hg : 1 < w.heap.size ∧ 2 < w.heap.size) (hkw : KwAt w) :
    Calls Tryf.prog 5 #[.slice oA l.length cap] w fun e w' => e = .returned (.bool true) ∧ Below w.heap.size w w' := by
  have hlen : l.length ≤ 9223372036854775807 := by simp only [maxLen] at hmax; omega
  have HB := fun W => bytes_fl2 oA l.length cap W hlen
  by_cases hb20 : l.length ≤ 1048576
  rotate_left
  · rw [decide_eq_false hb20] at HB
    clear hsrc htab hb20
    go_enter Tryf.func5, Tryf.ntmps5
    go_wp2_with (go_at_call 22; refine (HB _).mono ?_; rintro e w2 ⟨rfl, rfl⟩)
    go_ret
    exact ⟨rfl, Below.refl _ _⟩
  rw [decide_eq_true hb20] at HB
  by_cases hb16 : l.length ≤ 65536
  rotate_left
  · have t1 : decide ((l.length : Int) > 65536) = true := by simp; omega
    clear hsrc htab hb20
    go_enter Tryf.func5, Tryf.ntmps5
    go_wp2_with (go_at_call 22; refine (HB _).mono ?_; rintro e w2 ⟨rfl, rfl⟩)
    go_ret
    exact ⟨rfl, Below.refl _ _⟩
  have t1 : decide ((l.length : Int) > 65536) = false := by simp; omega
  by_cases hn2 : 2 ≤ l.length
  rotate_left
  · have t2 : decide ((l.length : Int) < 2) = true := by simp; omega
    clear hsrc htab hb20
    go_enter Tryf.func5, Tryf.ntmps5
    go_wp2_with (go_at_call 22; refine (HB _).mono ?_; rintro e w2 ⟨rfl, rfl⟩)
    go_ret
    exact ⟨rfl, Below.refl _ _⟩
  have t2 : decide ((l.length : Int) < 2) = false := by simp; omega
  obtain ⟨b, o, rfl, hbb, hcc⟩ := hsrc.at_ (by omega)
  have q0 : w.cell? ⟨b, o, none⟩ = some (.int .u8 (bt l 0 : Int)) := by
    rw [show (⟨b, o, none⟩ : Addr) = ⟨b, o + 0, none⟩ from rfl, hcc 0 (by omega)]
    simp [bt, List.getD, show 0 < l.length by omega]
  have q1 : w.cell? ⟨b, o + 1, none⟩ = some (.int .u8 (bt l 1 : Int)) := by
    rw [hcc 1 (by omega)]
    simp [bt, List.getD, show 1 < l.length by omega]
  have hbt0 := bt_lt l 0
  have hbt1 := bt_lt l 1
  by_cases h0 : bt l 0 = 47
  rotate_left
  · have t3 : ((bt l 0 : Int) != 47) = true := by simp; omega
    clear hsrc htab hb20 hcc
    go_enter Tryf.func5, Tryf.ntmps5
    go_wp2_with (go_at_call 22; refine (HB _).mono ?_; rintro e w2 ⟨rfl, rfl⟩)
    go_ret
    exact ⟨rfl, Below.refl _ _⟩
  by_cases h1 : bt l 1 = 47 ∨ bt l 1 = 42
  rotate_left
  · have t4 : ((bt l 1 : Int) != 47) = true := by simp; omega
    have t5 : ((bt l 1 : Int) != 42) = true := by simp; omega
    rw [h0] at q0
    clear hsrc htab hb20 hcc h0 h1
    go_enter Tryf.func5, Tryf.ntmps5
    go_wp2_with (go_at_call 22; refine (HB _).mono ?_; rintro e w2 ⟨rfl, rfl⟩)
    go_ret
    exact ⟨rfl, Below.refl _ _⟩
  obtain ⟨src, hsrcd⟩ : ∃ src, src = UInt8.ofNat 120 :: l := ⟨_, rfl⟩
  have hsl : src.length = l.length + 1 := by rw [hsrcd]; rfl
  have hs1 : bt src 1 = 47 := by rw [hsrcd, ← h0]; simp [bt, List.getD]
  have hs2 : bt src 2 = 47 ∨ bt src 2 = 42 := by
    have : bt src 2 = bt l 1 := by rw [hsrcd]; simp [bt, List.getD]
    rw [this]
    exact h1
  obtain ⟨txt, ke, hke, hcom⟩ := com_ex src (by omega) hs1 hs2
  have HPR : Hid (∀ (W : World), Below w.heap.size w W → Calls Tryf.prog 18 #[.slice (some ⟨b, o, none⟩) l.length cap] W (PrepPost l W)) := Lib.hid (fun W hB =>
    prep_any b o cap l.length l W rfl (by omega) hb16 (by have := hB.size; omega) (fun i hi => (hB.cell (p := ⟨b, o + i, none⟩) hbb).trans (hcc i hi)) h0 (tabs_keep htab hg.1 hg.2 hB.block) (by have := hB.size; omega) (hkw.below hkw.1 hB))
  have hone : ∀ t : St, Good src t → t.off = 1 → t.rd = 2 ∧ (nx src t).off = 2 ∧ Good src (nx src t) ∧ (nx src t).ec ≤ t.ec + 1 := fun t hgt ht => by
    have hn := nx_ascii hgt (by omega) (by rw [ht, hs1]; omega)
    rcases hgt with ⟨g1, g2, g3⟩ | ⟨g1, g2, g3⟩
    · have hw := (rn_facts src 1 (by omega)).2.2.2.2.2 (by rw [hs1]; omega)
      rw [ht, hw] at g2
      exact ⟨g2, by rw [hn.2.1, ht], hn.2.2.1, nx_ec src t⟩
    · omega
  have HONE := Lib.hid hone
  have HSRC := Lib.hid hsrcd
  have HLEN := Lib.hid hsl
  have HCOM := Lib.hid hcom
  have q1' : (((bt l 1 : Int) != 47) = false) ∨ (((bt l 1 : Int) != 47) = true ∧ ((bt l 1 : Int) != 42) = false) := by
    rcases h1 with h | h
    · exact Or.inl (by simp [h])
    · exact Or.inr ⟨by simp [h], by simp [h]⟩
  rw [h0] at q0
  clear hsrc htab hb20 hcc h0 h1 hone hsrcd hsl hcom hs1 hs2 hkw
  rcases q1' with t4 | ⟨t4, t5⟩
  all_goals
    go_enter Tryf.func5, Tryf.ntmps5
    go_wp2_with first | (go_at_call 22; refine (HB _).mono ?_; rintro e w2 ⟨rfl, rfl⟩) | (go_at_call 18; refine Hid.out ?_)
    refine Lib.hid ?_
    refine (HPR.out w (Below.refl _ _)).mono ?_
    rintro e w1 ⟨F1, s1, rfl, hF1, hs1, hg1, ho1, hse1, hec1, hb1⟩
    rw [← HSRC.out] at hs1 hg1
    obtain ⟨hr1, hno1, hng1, hnec1⟩ := HONE.out s1 hg1 ho1
    have hat := nx_at src s1 (by have := HLEN.out; omega)
    have hse2 : (nx src s1).semi = true := (nx_semi src s1).trans hse1
    have HST : Hid ((nx src s1).off = 2 ∧ (nx src s1).rd = 2 + (rn src 2).2 ∧ (nx src s1).ch = ((rn src 2).1 : Int) ∧ (nx src s1).semi = true ∧ (nx src s1).ec ≤ 4 ∧ Good src (nx src s1)) := Lib.hid (by
      rw [hr1] at hat
      exact ⟨hno1, hat.2.1, hat.2.2.1, hse2, by omega, hng1⟩)
    have H1 := Lib.hid hs1
    have B1 := Lib.hid hb1
    have hec1' : s1.ec ≤ 4611686018427387904 := by omega
    clear hs1 hg1 ho1 hse1 hec1 hb1 hr1 hno1 hng1 hnec1 hat hse2
    go_wp2_with (go_at_call 12; refine Hid.out ?_)
    refine Lib.hid ?_
    refine (zznext_any F1 src s1 w1 H1.out hec1').mono ?_
    rintro e w2 ⟨rfl, hs2, hb2⟩
    generalize nx src s1 = s2 at HST hs2
    have HO2 := Lib.hid (zzoff_any F1 src s2 w2 hs2)
    rw [HST.out.1] at HO2
    have HR2 := Lib.hid (zzrd_any F1 src s2 w2 hs2)
    rw [HST.out.2.1] at HR2
    have HC2 := Lib.hid (zzch_any F1 src s2 w2 hs2)
    rw [HST.out.2.2.1] at HC2
    have HE2 := Lib.hid (zzsemi_any F1 src s2 w2 hs2)
    rw [HST.out.2.2.2.1] at HE2
    have HFL := Lib.hid (fle_any F1 src s2 w2 hs2 HST.out.2.2.2.2.2 (by rw [HST.out.1]; omega) (by have := HST.out.2.2.2.2.1; omega))
    have B2 := Lib.hid (B1.out.trans (hb2.mono hF1))
    clear hs2 hb2 H1 B1 hec1'
    obtain ⟨rd2, hrd2⟩ : ∃ x, 2 + (rn src 2).2 = x := ⟨_, rfl⟩
    obtain ⟨ch2, hch2⟩ : ∃ x, ((rn src 2).1 : Int) = x := ⟨_, rfl⟩
    rw [hrd2] at HST HR2
    rw [hch2] at HST HC2
    have HRD := Lib.hid hrd2
    have HCD := Lib.hid hch2
    clear hrd2 hch2
    go_wp2_with first | (go_at_call 13; refine HO2.out.mono ?_; rintro e w' ⟨rfl, rfl⟩) | (go_at_call 23; refine HR2.out.mono ?_; rintro e w' ⟨rfl, rfl⟩) | (go_at_call 16; refine HC2.out.mono ?_; rintro e w' ⟨rfl, rfl⟩) | (go_at_call 19; refine HE2.out.mono ?_; rintro e w' ⟨rfl, rfl⟩) | (go_at_call 20; refine Hid.out ?_)
    refine Lib.hid ?_
    refine (zzfle_any F1 src s2 w2 HFL.out).mono ?_
    rintro e w3 ⟨bb, u, rfl, hfr, hs3, hb3⟩
    have hway := hfr.way HST.out.2.2.2.2.2
    have hgood3 : Good src (nx src (rst (s2.off - 1) u)) := nx_good src _ (by rw [HST.out.1]; show 1 + 1 ≤ _; have := HLEN.out; omega)
    have hat3 := nx_at src (rst (s2.off - 1) u) (by rw [HST.out.1]; show 1 + 1 < _; have := HLEN.out; omega)
    have hse3 : (nx src (rst (s2.off - 1) u)).semi = true := (nx_semi src _).trans (hway.semi.trans HST.out.2.2.2.1)
    have hrd3 : (rst (s2.off - 1) u).rd = 2 := by rw [HST.out.1]; rfl
    have hec3 : (nx src (rst (s2.off - 1) u)).ec ≤ 1000000 := by
      have h1 := hat3.2.2.2
      have h2 : (rst (s2.off - 1) u).ec = u.ec := rfl
      have h3 := hway.ec
      have h4 := hway.good.le
      have h5 := HST.out.2.2.2.2.1
      have h6 := HLEN.out
      omega
    rw [hrd3, HRD.out, HCD.out] at hat3
    generalize nx src (rst (s2.off - 1) u) = s3 at hs3 hgood3 hat3 hse3 hec3
    have HO3 := Lib.hid (zzoff_any F1 src s3 w3 hs3)
    rw [hat3.1] at HO3
    have HR3 := Lib.hid (zzrd_any F1 src s3 w3 hs3)
    rw [hat3.2.1] at HR3
    have HC3 := Lib.hid (zzch_any F1 src s3 w3 hs3)
    rw [hat3.2.2.1] at HC3
    have HE3 := Lib.hid (zzsemi_any F1 src s3 w3 hs3)
    rw [hse3] at HE3
    have HCM := Lib.hid (HCOM.out F1 s3 w3 hs3 hgood3 hat3.1 (by omega))
    have B3 := Lib.hid (B2.out.trans (hb3.mono hF1))
    clear hs3 hgood3 hat3 hse3 hec3 hrd3 hway hfr hb3 HFL HO2 HR2 HC2 HE2 B2 HST HRD HCD
    go_wp2_with first | (go_at_call 13; refine HO3.out.mono ?_; rintro e w' ⟨rfl, rfl⟩) | (go_at_call 23; refine HR3.out.mono ?_; rintro e w' ⟨rfl, rfl⟩) | (go_at_call 16; refine HC3.out.mono ?_; rintro e w' ⟨rfl, rfl⟩) | (go_at_call 19; refine HE3.out.mono ?_; rintro e w' ⟨rfl, rfl⟩) | (go_at_call 24; refine Hid.out ?_)
    refine Lib.hid ?_
    refine HCM.out.mono ?_
    rintro e w4 ⟨t4, rfl, _, ht4, _, hs4, hb4⟩
    have H4 := Lib.hid hs4
    have HT4 := Lib.hid ht4
    have B4 := Lib.hid (B3.out.trans (hb4.mono hF1))
    have HPR2 := Lib.hid (HPR.out w4 B4.out)
    clear hs4 ht4 hb4 HCM HO3 HR3 HC3 HE3 B3
    go_wp2_with (go_at_call 18; refine Hid.out ?_)
    refine Lib.hid ?_
    refine HPR2.out.mono ?_
    rintro e w5 ⟨F2, r1, rfl, hF2, hs5, hg5, ho5, hse5, hec5, hb5⟩
    rw [← HSRC.out] at hs5 hg5
    obtain ⟨hr5, hno5, hng5, hnec5⟩ := HONE.out r1 hg5 ho5
    have H5 := Lib.hid hs5
    have B5 := Lib.hid hb5
    have HN5 : Hid ((nx src r1).off = 2 ∧ Good src (nx src r1) ∧ (nx src r1).ec ≤ 4) := Lib.hid ⟨hno5, hng5, by omega⟩
    have hec5' : r1.ec ≤ 4611686018427387904 := by omega
    clear hs5 hg5 ho5 hse5 hec5 hb5 hr5 hno5 hng5 hnec5 HPR2
    go_wp2_with (go_at_call 12; refine Hid.out ?_)
    refine Lib.hid ?_
    refine (zznext_any F2 src r1 w5 H5.out hec5').mono ?_
    rintro e w6 ⟨rfl, hs6, hb6⟩
    have HCM2 := Lib.hid (HCOM.out F2 (nx src r1) w6 hs6 HN5.out.2.1 HN5.out.1 (by have := HN5.out.2.2; omega))
    have B6 := Lib.hid (B5.out.trans (hb6.mono hF2))
    clear hs6 hb6 H5 B5 hec5'
    go_wp2_with (go_at_call 24; refine Hid.out ?_)
    refine Lib.hid ?_
    refine HCM2.out.mono ?_
    rintro e w7 ⟨t7, rfl, _, ht7, _, hs7, hb7⟩
    have B7 := Lib.hid (B6.out.trans (hb7.mono hF2))
    have HO7 := Lib.hid (zzoff_any F1 src t4 w7 (H4.out.below B7.out))
    rw [HT4.out] at HO7
    have HO8 := Lib.hid (zzoff_any F2 src t7 w7 hs7)
    rw [ht7] at HO8
    clear hs7 ht7 hb7 HCM2 B6
    go_wp2_with (go_at_call 13; refine Hid.out ?_)
    refine Lib.hid ?_
    refine HO7.out.mono ?_
    rintro e w8 ⟨rfl, rfl⟩
    go_wp2_with (go_at_call 13; refine Hid.out ?_)
    refine Lib.hid ?_
    refine HO8.out.mono ?_
    rintro e w8 ⟨rfl, rfl⟩
    go_wp2_with fail
    go_ret
    exact ⟨rfl, B4.out.trans (B7.out.mono B4.out.size)⟩
end Go.Proofs.YthhmkkpginddbaaFmt
