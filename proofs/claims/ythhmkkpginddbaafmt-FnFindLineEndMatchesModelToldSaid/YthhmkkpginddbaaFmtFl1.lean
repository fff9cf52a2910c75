/-
  FnFindLineEndMatchesModel, walked. Conditions: the token table reads as laid.
-/
import Derived.Test.YthhmkkpginddbaaFmtFlW
namespace Go.Proofs.YthhmkkpginddbaaFmt
open Go.RowKit
set_option maxRecDepth 100000
set_option linter.unusedVariables false

set_option maxHeartbeats 400000 in
theorem bytes_fl1 (o0 : Option Addr) (n0 cap0 : Nat) (w : World) (h0 : n0 ≤ 9223372036854775807) :
    Calls Tryf.prog 17 #[.slice o0 n0 cap0] w fun e w' => e = .returned (.bool (decide (n0 ≤ 1048576))) ∧ w = w' := by
  go_enter Tryf.func17, Tryf.ntmps17
  go_wp2
  all_goals (go_ret; first | exact ⟨ret_t (by omega), rfl⟩ | exact ⟨ret_f (by omega), rfl⟩)


set_option maxHeartbeats 4000000 in
theorem law_fl1 (oA : Option Addr) (cap : Nat) (l : List UInt8) (w : World) (hcap : l.length ≤ cap) (hmax : cap ≤ maxLen) (hsrc : SrcAt w w.heap.size oA l) (hnil : oA = none → l = [] ∧ cap = 0)
    (htab : Lib.Utf8Tabs 1 2 w) (hg : 1 < w.heap.size ∧ 2 < w.heap.size) (hkw : KwAt w) :
    Calls Tryf.prog 4 #[.slice oA l.length cap] w fun e w' => e = .returned (.bool true) ∧ Below w.heap.size w w' := by
  have hlen : l.length ≤ 9223372036854775807 := by simp only [maxLen] at hmax; omega
  have HB := fun W => bytes_fl1 oA l.length cap W hlen
  by_cases hb20 : l.length ≤ 1048576
  rotate_left
  · rw [decide_eq_false hb20] at HB
    clear hsrc htab hb20
    go_enter Tryf.func4, Tryf.ntmps4
    go_wp2_with (go_at_call 17; refine (HB _).mono ?_; rintro e w2 ⟨rfl, rfl⟩)
    go_ret
    exact ⟨rfl, Below.refl _ _⟩
  rw [decide_eq_true hb20] at HB
  by_cases hb16 : l.length ≤ 65536
  rotate_left
  · have t1 : decide ((l.length : Int) > 65536) = true := by simp; omega
    clear hsrc htab hb20
    go_enter Tryf.func4, Tryf.ntmps4
    go_wp2_with (go_at_call 17; refine (HB _).mono ?_; rintro e w2 ⟨rfl, rfl⟩)
    go_ret
    exact ⟨rfl, Below.refl _ _⟩
  have t1 : decide ((l.length : Int) > 65536) = false := by simp; omega
  by_cases hn2 : 2 ≤ l.length
  rotate_left
  · have t2 : decide ((l.length : Int) < 2) = true := by simp; omega
    clear hsrc htab hb20
    go_enter Tryf.func4, Tryf.ntmps4
    go_wp2_with (go_at_call 17; refine (HB _).mono ?_; rintro e w2 ⟨rfl, rfl⟩)
    go_ret
    exact ⟨rfl, Below.refl _ _⟩
  have t2 : decide ((l.length : Int) < 2) = false := by simp; omega
  obtain ⟨b, o, rfl, hbb, hcc⟩ := hsrc.at_ (by omega)
  have q0 : w.cell? ⟨b, o, none⟩ = some (.int .u8 (bt l 0 : Int)) := by
    rw [show (⟨b, o, none⟩ : Addr) = ⟨b, o + 0, none⟩ from rfl, hcc 0 (by omega)]
    simp [bt, List.getD, show 0 < l.length by omega]
  have q1 : w.cell? ⟨b, o + 1, none⟩ = some (.int .u8 (bt l 1 : Int)) := by
    rw [hcc 1 (by omega)]
    simp [bt, List.getD, show 1 < l.length by omega]
  have hbt0 := bt_lt l 0
  have hbt1 := bt_lt l 1
  by_cases h0 : bt l 0 = 47
  rotate_left
  · have t3 : ((bt l 0 : Int) != 47) = true := by simp; omega
    clear hsrc htab hb20 hcc
    go_enter Tryf.func4, Tryf.ntmps4
    go_wp2_with (go_at_call 17; refine (HB _).mono ?_; rintro e w2 ⟨rfl, rfl⟩)
    go_ret
    exact ⟨rfl, Below.refl _ _⟩
  by_cases h1 : bt l 1 = 47 ∨ bt l 1 = 42
  rotate_left
  · have t4 : ((bt l 1 : Int) != 47) = true := by simp; omega
    have t5 : ((bt l 1 : Int) != 42) = true := by simp; omega
    rw [h0] at q0
    clear hsrc htab hb20 hcc h0 h1
    go_enter Tryf.func4, Tryf.ntmps4
    go_wp2_with (go_at_call 17; refine (HB _).mono ?_; rintro e w2 ⟨rfl, rfl⟩)
    go_ret
    exact ⟨rfl, Below.refl _ _⟩
  obtain ⟨src, hsrcd⟩ : ∃ src, src = UInt8.ofNat 120 :: l := ⟨_, rfl⟩
  have hsl : src.length = l.length + 1 := by rw [hsrcd]; rfl
  have hs1 : bt src 1 = 47 := by rw [hsrcd, ← h0]; simp [bt, List.getD]
  have hs2 : bt src 2 = 47 ∨ bt src 2 = 42 := by
    have : bt src 2 = bt l 1 := by rw [hsrcd]; simp [bt, List.getD]
    rw [this]
    exact h1
  have HPR : Hid (∀ (W : World), Below w.heap.size w W → Calls Tryf.prog 18 #[.slice (some ⟨b, o, none⟩) l.length cap] W (PrepPost l W)) := Lib.hid (fun W hB =>
    prep_any b o cap l.length l W rfl (by omega) hb16 (by have := hB.size; omega) (fun i hi => (hB.cell (p := ⟨b, o + i, none⟩) hbb).trans (hcc i hi)) h0 (tabs_keep htab hg.1 hg.2 hB.block) (by have := hB.size; omega) (hkw.below hkw.1 hB))
  have hone : ∀ t : St, Good src t → t.off = 1 → t.rd = 2 ∧ (nx src t).off = 2 ∧ Good src (nx src t) ∧ (nx src t).ec ≤ t.ec + 1 := fun t hgt ht => by
    have hn := nx_ascii hgt (by omega) (by rw [ht, hs1]; omega)
    rcases hgt with ⟨g1, g2, g3⟩ | ⟨g1, g2, g3⟩
    · have hw := (rn_facts src 1 (by omega)).2.2.2.2.2 (by rw [hs1]; omega)
      rw [ht, hw] at g2
      exact ⟨g2, by rw [hn.2.1, ht], hn.2.2.1, nx_ec src t⟩
    · omega
  have HONE := Lib.hid hone
  have HS1 := Lib.hid hs1
  have HB0 := Lib.hid h0
  have HMD : Hid (∀ (W : World), Below w.heap.size w W → Calls Tryf.prog 21 #[.slice (some ⟨b, o, none⟩) l.length cap] W (MdPost l W)) := Lib.hid (fun W hB =>
    model_any b o cap l.length l W rfl hb16 (by have := hB.size; omega) (fun i hi => (hB.cell (p := ⟨b, o + i, none⟩) hbb).trans (hcc i hi)))
  have HSRC := Lib.hid hsrcd
  have HLEN := Lib.hid hsl
  have q1' : (((bt l 1 : Int) != 47) = false) ∨ (((bt l 1 : Int) != 47) = true ∧ ((bt l 1 : Int) != 42) = false) := by
    rcases h1 with h | h
    · exact Or.inl (by simp [h])
    · exact Or.inr ⟨by simp [h], by simp [h]⟩
  rw [h0] at q0
  clear hsrc htab hb20 hcc h0 h1 hone hsrcd hsl hs1 hs2 hkw
  rcases q1' with t4 | ⟨t4, t5⟩
  all_goals
    go_enter Tryf.func4, Tryf.ntmps4
    go_wp2_with first | (go_at_call 17; refine (HB _).mono ?_; rintro e w2 ⟨rfl, rfl⟩) | (go_at_call 18; refine Hid.out ?_)
    refine Lib.hid ?_
    refine (HPR.out w (Below.refl _ _)).mono ?_
    rintro e w1 ⟨F1, s1, rfl, hF1, hs1, hg1, ho1, hse1, hec1, hb1⟩
    rw [← HSRC.out] at hs1 hg1
    obtain ⟨hr1, hno1, hng1, hnec1⟩ := HONE.out s1 hg1 ho1
    have hch1 : s1.ch = 47 := (hg1.ascii 47 (by decide)).2 ⟨by have := HLEN.out; omega, by rw [ho1]; exact HS1.out⟩
    have HC1 := Lib.hid (zzch_any F1 src s1 w1 hs1)
    rw [hch1] at HC1
    have HO1 := Lib.hid (zzoff_any F1 src s1 w1 hs1)
    rw [ho1] at HO1
    have HE1 := Lib.hid (zzsemi_any F1 src s1 w1 hs1)
    rw [hse1] at HE1
    have HST : Hid ((nx src s1).off = 2 ∧ (nx src s1).semi = true ∧ (nx src s1).ec ≤ 4 ∧ Good src (nx src s1)) := Lib.hid ⟨hno1, (nx_semi src s1).trans hse1, by omega, hng1⟩
    have H1 := Lib.hid hs1
    have B1 := Lib.hid hb1
    have hec1' : s1.ec ≤ 4611686018427387904 := by omega
    clear hs1 hg1 ho1 hse1 hec1 hb1 hr1 hno1 hng1 hnec1 hch1
    go_wp2_with first | (go_at_call 16; refine HC1.out.mono ?_; rintro e w' ⟨rfl, rfl⟩) | (go_at_call 13; refine HO1.out.mono ?_; rintro e w' ⟨rfl, rfl⟩) | (go_at_call 19; refine HE1.out.mono ?_; rintro e w' ⟨rfl, rfl⟩) | (go_at_call 12; refine Hid.out ?_)
    refine Lib.hid ?_
    refine (zznext_any F1 src s1 w1 H1.out hec1').mono ?_
    rintro e w2 ⟨rfl, hs2, hb2⟩
    generalize nx src s1 = s2 at HST hs2
    have HFL := Lib.hid (fle_any F1 src s2 w2 hs2 HST.out.2.2.2 (by rw [HST.out.1]; omega) (by have := HST.out.2.2.1; omega))
    have B2 := Lib.hid (B1.out.trans (hb2.mono hF1))
    clear hs2 hb2 H1 B1 hec1' HC1 HO1 HE1
    go_wp2_with (go_at_call 20; refine Hid.out ?_)
    refine Lib.hid ?_
    refine (zzfle_any F1 src s2 w2 HFL.out).mono ?_
    rintro e w3 ⟨bb, u, rfl, hfr, hs3, hb3⟩
    have HFR := Lib.hid hfr
    have B3 := Lib.hid (B2.out.trans (hb3.mono hF1))
    have HM3 := Lib.hid (HMD.out w3 B3.out)
    clear hfr hs3 hb3 HFL B2
    go_wp2_with (go_at_call 21; refine Hid.out ?_)
    refine Lib.hid ?_
    refine HM3.out.mono ?_
    rintro e w4 ⟨S, D, b', rfl, hps, hans, hb4⟩
    have hbb' : b' = bb := fle_law (src := src) (l := l) (fun i => by rw [HSRC.out]; simp [bt, List.getD]) HLEN.out HFR.out 0 (fun _ => false) (fun _ => false) S D b' HST.out.2.2.2 HST.out.2.1 (by rw [HST.out.1]) ⟨hps, fun t ht => by omega, fun _ _ => rfl, by omega, HB0.out⟩ hans
    subst hbb'
    have B4 := Lib.hid (B3.out.trans (hb4.mono B3.out.size))
    clear hps hans hb4 HM3 HFR HST
    cases b'
    all_goals
      go_wp2_with fail
      go_ret
      exact ⟨rfl, B4.out⟩
end Go.Proofs.YthhmkkpginddbaaFmt
