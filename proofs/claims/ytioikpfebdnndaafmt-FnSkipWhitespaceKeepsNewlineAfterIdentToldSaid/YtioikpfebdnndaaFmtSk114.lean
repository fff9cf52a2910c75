/-
  FnSkipWhitespaceKeepsNewlineAfterIdent, walked. Conditions: the token table reads as laid.
-/
import Derived.Test.YtioikpfebdnndaaFmtScanI
namespace Go.Proofs.YtioikpfebdnndaaFmt
open Go.RowKit
set_option maxRecDepth 100000
set_option linter.unusedVariables false

set_option maxHeartbeats 400000 in
theorem bytes_skip (o0 : Option Addr) (n0 cap0 : Nat) (w : World) (h0 : n0 ≤ 9223372036854775807) :
    Calls Tryf.prog 20 #[.slice o0 n0 cap0] w fun e w' => e = .returned (.bool (decide (n0 ≤ 1048576))) ∧ w = w' := by
  go_enter Tryf.func20, Tryf.ntmps20
  go_wp2
  all_goals (go_ret; first | exact ⟨ret_t (by omega), rfl⟩ | exact ⟨ret_f (by omega), rfl⟩)

theorem skip_far {src : List UInt8} {s u : St} (h : SkipR src s u) : ∀ i, Good src s → s.semi = true → s.off ≤ i → i ≤ src.length → (∀ j, s.off ≤ j → j < i → (bt src j = 32 ∨ bt src j = 9 ∨ bt src j = 13)) → (i < src.length → ¬ (bt src i = 32 ∨ bt src i = 9 ∨ bt src i = 13)) → u.off = i ∧ Good src u := by
  induction h with
  | @stop s hw =>
    intro i hg hse h1 h2 h3 h4
    refine ⟨?_, hg⟩
    rcases Nat.lt_or_ge s.off i with hl | hl
    · have hb := h3 s.off (Nat.le_refl _) hl
      have hch := (nx_ascii hg (by omega) (by omega)).1
      exact absurd (show s.ch = 32 ∨ s.ch = 9 ∨ (s.ch = 10 ∧ s.semi = false) ∨ s.ch = 13 by omega) (of_decide_eq_false hw)
    · omega
  | @step s t hw hr ih =>
    intro i hg hse h1 h2 h3 h4
    have hx := of_decide_eq_true hw
    rw [hse] at hx
    have hx2 : s.ch = 32 ∨ s.ch = 9 ∨ s.ch = 13 := by
      rcases hx with h | h | ⟨_, h⟩ | h
      · exact Or.inl h
      · exact Or.inr (Or.inl h)
      · cases h
      · exact Or.inr (Or.inr h)
    have hb : s.off < src.length ∧ (bt src s.off = 32 ∨ bt src s.off = 9 ∨ bt src s.off = 13) := by
      rcases hx2 with h | h | h
      · have := (hg.ascii 32 (by decide)).1 h
        exact ⟨this.1, Or.inl this.2⟩
      · have := (hg.ascii 9 (by decide)).1 h
        exact ⟨this.1, Or.inr (Or.inl this.2)⟩
      · have := (hg.ascii 13 (by decide)).1 h
        exact ⟨this.1, Or.inr (Or.inr this.2)⟩
    have hne : s.off ≠ i := by
      rintro rfl
      exact h4 hb.1 hb.2
    obtain ⟨n1, n2, n3, _, _⟩ := nx_ascii hg hb.1 (by omega)
    exact ih i n3 ((nx_semi src s).trans hse) (by omega) h2 (fun j j1 j2 => h3 j (by omega) j2) h4
set_option maxHeartbeats 2000000 in
theorem identByte_any (n : Nat) (hn : n < 256) (w : World) : Calls Tryf.prog 21 #[.int .u8 (n : Int)] w fun e w' => e = .returned (.bool (idp (n : Int))) ∧ w = w' := by
  have hc : (n ≤ 47) ∨ (48 ≤ n ∧ n ≤ 57) ∨ (58 ≤ n ∧ n ≤ 64) ∨ (65 ≤ n ∧ n ≤ 90) ∨ (91 ≤ n ∧ n ≤ 94) ∨ (n = 95) ∨ (n = 96) ∨ (97 ≤ n ∧ n ≤ 122) ∨ (123 ≤ n) := by omega
  rcases hc with h | h | h | h | h | h | h | h | h
  · have e : idp (n : Int) = false := by
      unfold idp asciiLetter asciiDigit
      rw [Bool.or_eq_false_iff]; simp only [decide_eq_false_iff_not]; omega
    have t1 : decide ((97 : Int) ≤ (n : Int)) = false := by simp only [decide_eq_false_iff_not]; omega
    have t2 : decide ((n : Int) ≤ 122) = true := by simp only [decide_eq_true_eq]; omega
    have t3 : decide ((65 : Int) ≤ (n : Int)) = false := by simp only [decide_eq_false_iff_not]; omega
    have t4 : decide ((n : Int) ≤ 90) = true := by simp only [decide_eq_true_eq]; omega
    have t5 : decide ((48 : Int) ≤ (n : Int)) = false := by simp only [decide_eq_false_iff_not]; omega
    have t6 : decide ((n : Int) ≤ 57) = true := by simp only [decide_eq_true_eq]; omega
    have t7 : ((n : Int) == 95) = false := by simp; omega
    rw [e]
    clear e h
    go_enter Tryf.func21, Tryf.ntmps21
    go_wp2
    go_ret
    exact ⟨rfl, rfl⟩
  · have e : idp (n : Int) = true := by
      unfold idp asciiLetter asciiDigit
      rw [Bool.or_eq_true]; simp only [decide_eq_true_eq]; omega
    have t1 : decide ((97 : Int) ≤ (n : Int)) = false := by simp only [decide_eq_false_iff_not]; omega
    have t2 : decide ((n : Int) ≤ 122) = true := by simp only [decide_eq_true_eq]; omega
    have t3 : decide ((65 : Int) ≤ (n : Int)) = false := by simp only [decide_eq_false_iff_not]; omega
    have t4 : decide ((n : Int) ≤ 90) = true := by simp only [decide_eq_true_eq]; omega
    have t5 : decide ((48 : Int) ≤ (n : Int)) = true := by simp only [decide_eq_true_eq]; omega
    have t6 : decide ((n : Int) ≤ 57) = true := by simp only [decide_eq_true_eq]; omega
    have t7 : ((n : Int) == 95) = false := by simp; omega
    rw [e]
    clear e h
    go_enter Tryf.func21, Tryf.ntmps21
    go_wp2
    go_ret
    exact ⟨rfl, rfl⟩
  · have e : idp (n : Int) = false := by
      unfold idp asciiLetter asciiDigit
      rw [Bool.or_eq_false_iff]; simp only [decide_eq_false_iff_not]; omega
    have t1 : decide ((97 : Int) ≤ (n : Int)) = false := by simp only [decide_eq_false_iff_not]; omega
    have t2 : decide ((n : Int) ≤ 122) = true := by simp only [decide_eq_true_eq]; omega
    have t3 : decide ((65 : Int) ≤ (n : Int)) = false := by simp only [decide_eq_false_iff_not]; omega
    have t4 : decide ((n : Int) ≤ 90) = true := by simp only [decide_eq_true_eq]; omega
    have t5 : decide ((48 : Int) ≤ (n : Int)) = true := by simp only [decide_eq_true_eq]; omega
    have t6 : decide ((n : Int) ≤ 57) = false := by simp only [decide_eq_false_iff_not]; omega
    have t7 : ((n : Int) == 95) = false := by simp; omega
    rw [e]
    clear e h
    go_enter Tryf.func21, Tryf.ntmps21
    go_wp2
    go_ret
    exact ⟨rfl, rfl⟩
  · have e : idp (n : Int) = true := by
      unfold idp asciiLetter asciiDigit
      rw [Bool.or_eq_true]; simp only [decide_eq_true_eq]; omega
    have t1 : decide ((97 : Int) ≤ (n : Int)) = false := by simp only [decide_eq_false_iff_not]; omega
    have t2 : decide ((n : Int) ≤ 122) = true := by simp only [decide_eq_true_eq]; omega
    have t3 : decide ((65 : Int) ≤ (n : Int)) = true := by simp only [decide_eq_true_eq]; omega
    have t4 : decide ((n : Int) ≤ 90) = true := by simp only [decide_eq_true_eq]; omega
    have t5 : decide ((48 : Int) ≤ (n : Int)) = true := by simp only [decide_eq_true_eq]; omega
    have t6 : decide ((n : Int) ≤ 57) = false := by simp only [decide_eq_false_iff_not]; omega
    have t7 : ((n : Int) == 95) = false := by simp; omega
    rw [e]
    clear e h
    go_enter Tryf.func21, Tryf.ntmps21
    go_wp2
    go_ret
    exact ⟨rfl, rfl⟩
  · have e : idp (n : Int) = false := by
      unfold idp asciiLetter asciiDigit
      rw [Bool.or_eq_false_iff]; simp only [decide_eq_false_iff_not]; omega
    have t1 : decide ((97 : Int) ≤ (n : Int)) = false := by simp only [decide_eq_false_iff_not]; omega
    have t2 : decide ((n : Int) ≤ 122) = true := by simp only [decide_eq_true_eq]; omega
    have t3 : decide ((65 : Int) ≤ (n : Int)) = true := by simp only [decide_eq_true_eq]; omega
    have t4 : decide ((n : Int) ≤ 90) = false := by simp only [decide_eq_false_iff_not]; omega
    have t5 : decide ((48 : Int) ≤ (n : Int)) = true := by simp only [decide_eq_true_eq]; omega
    have t6 : decide ((n : Int) ≤ 57) = false := by simp only [decide_eq_false_iff_not]; omega
    have t7 : ((n : Int) == 95) = false := by simp; omega
    rw [e]
    clear e h
    go_enter Tryf.func21, Tryf.ntmps21
    go_wp2
    go_ret
    exact ⟨rfl, rfl⟩
  · have e : idp (n : Int) = true := by
      unfold idp asciiLetter asciiDigit
      rw [Bool.or_eq_true]; simp only [decide_eq_true_eq]; omega
    have t1 : decide ((97 : Int) ≤ (n : Int)) = false := by simp only [decide_eq_false_iff_not]; omega
    have t2 : decide ((n : Int) ≤ 122) = true := by simp only [decide_eq_true_eq]; omega
    have t3 : decide ((65 : Int) ≤ (n : Int)) = true := by simp only [decide_eq_true_eq]; omega
    have t4 : decide ((n : Int) ≤ 90) = false := by simp only [decide_eq_false_iff_not]; omega
    have t5 : decide ((48 : Int) ≤ (n : Int)) = true := by simp only [decide_eq_true_eq]; omega
    have t6 : decide ((n : Int) ≤ 57) = false := by simp only [decide_eq_false_iff_not]; omega
    have t7 : ((n : Int) == 95) = true := by simp [h]
    rw [e]
    clear e h
    go_enter Tryf.func21, Tryf.ntmps21
    go_wp2
    go_ret
    exact ⟨rfl, rfl⟩
  · have e : idp (n : Int) = false := by
      unfold idp asciiLetter asciiDigit
      rw [Bool.or_eq_false_iff]; simp only [decide_eq_false_iff_not]; omega
    have t1 : decide ((97 : Int) ≤ (n : Int)) = false := by simp only [decide_eq_false_iff_not]; omega
    have t2 : decide ((n : Int) ≤ 122) = true := by simp only [decide_eq_true_eq]; omega
    have t3 : decide ((65 : Int) ≤ (n : Int)) = true := by simp only [decide_eq_true_eq]; omega
    have t4 : decide ((n : Int) ≤ 90) = false := by simp only [decide_eq_false_iff_not]; omega
    have t5 : decide ((48 : Int) ≤ (n : Int)) = true := by simp only [decide_eq_true_eq]; omega
    have t6 : decide ((n : Int) ≤ 57) = false := by simp only [decide_eq_false_iff_not]; omega
    have t7 : ((n : Int) == 95) = false := by simp; omega
    rw [e]
    clear e h
    go_enter Tryf.func21, Tryf.ntmps21
    go_wp2
    go_ret
    exact ⟨rfl, rfl⟩
  · have e : idp (n : Int) = true := by
      unfold idp asciiLetter asciiDigit
      rw [Bool.or_eq_true]; simp only [decide_eq_true_eq]; omega
    have t1 : decide ((97 : Int) ≤ (n : Int)) = true := by simp only [decide_eq_true_eq]; omega
    have t2 : decide ((n : Int) ≤ 122) = true := by simp only [decide_eq_true_eq]; omega
    have t3 : decide ((65 : Int) ≤ (n : Int)) = true := by simp only [decide_eq_true_eq]; omega
    have t4 : decide ((n : Int) ≤ 90) = false := by simp only [decide_eq_false_iff_not]; omega
    have t5 : decide ((48 : Int) ≤ (n : Int)) = true := by simp only [decide_eq_true_eq]; omega
    have t6 : decide ((n : Int) ≤ 57) = false := by simp only [decide_eq_false_iff_not]; omega
    have t7 : ((n : Int) == 95) = false := by simp; omega
    rw [e]
    clear e h
    go_enter Tryf.func21, Tryf.ntmps21
    go_wp2
    go_ret
    exact ⟨rfl, rfl⟩
  · have e : idp (n : Int) = false := by
      unfold idp asciiLetter asciiDigit
      rw [Bool.or_eq_false_iff]; simp only [decide_eq_false_iff_not]; omega
    have t1 : decide ((97 : Int) ≤ (n : Int)) = true := by simp only [decide_eq_true_eq]; omega
    have t2 : decide ((n : Int) ≤ 122) = false := by simp only [decide_eq_false_iff_not]; omega
    have t3 : decide ((65 : Int) ≤ (n : Int)) = true := by simp only [decide_eq_true_eq]; omega
    have t4 : decide ((n : Int) ≤ 90) = false := by simp only [decide_eq_false_iff_not]; omega
    have t5 : decide ((48 : Int) ≤ (n : Int)) = true := by simp only [decide_eq_true_eq]; omega
    have t6 : decide ((n : Int) ≤ 57) = false := by simp only [decide_eq_false_iff_not]; omega
    have t7 : ((n : Int) == 95) = false := by simp; omega
    rw [e]
    clear e h
    go_enter Tryf.func21, Tryf.ntmps21
    go_wp2
    go_ret
    exact ⟨rfl, rfl⟩
set_option maxHeartbeats 400000 in
theorem zzskip_any (Fx : Fix) (src : List UInt8) (s : St) (w : World) (h : Calls Tryf.prog 31 #[.pointer (some ⟨Fx.gS, 0, none⟩)] w (SkipPost Fx src s w)) :
    Calls Tryf.prog 23 #[.pointer (some ⟨Fx.gS, 0, none⟩)] w (SkipPost Fx src s w) := by
  have HC := Lib.hid h
  clear h
  go_enter Tryf.func23, Tryf.ntmps23
  go_wp2_with fail
  refine HC.out.mono ?_
  rintro e w2 ⟨t, rfl, h1, h2, h4, h5⟩
  have H := Lib.hid (And.intro h1 (And.intro h2 (And.intro h4 h5)))
  clear h1 h2 h4 h5
  go_wp2
  go_end0
  exact ⟨t, rfl, H.out.1, H.out.2.1, H.out.2.2.1, H.out.2.2.2⟩
theorem stNew_mode (src : List UInt8) (m : Int) : (stNew src m).mode = m := by
  unfold stNew
  split
  · rw [nx_mode, nx_mode]
    rfl
  · rw [nx_mode]
    rfl

set_option maxHeartbeats 2000000 in
theorem law_skip (oA : Option Addr) (cap : Nat) (l : List UInt8) (w : World) (hcap : l.length ≤ cap) (hmax : cap ≤ maxLen) (hsrc : SrcAt w w.heap.size oA l) (hnil : oA = none → l = [] ∧ cap = 0)
    (htab : Lib.Utf8Tabs 3 4 w) (hg : 3 < w.heap.size ∧ 4 < w.heap.size) (hkw : KwAt w) :
    Calls Tryf.prog 5 #[.slice oA l.length cap] w fun e w' => e = .returned (.bool true) ∧ Below w.heap.size w w' := by
  have hlen : l.length ≤ 9223372036854775807 := by simp only [maxLen] at hmax; omega
  have HB := fun W => bytes_skip oA l.length cap W hlen
  by_cases hb20 : l.length ≤ 1048576
  rotate_left
  · rw [decide_eq_false hb20] at HB
    clear hsrc htab hb20
    go_enter Tryf.func5, Tryf.ntmps5
    go_wp2_with (go_at_call 20; refine (HB _).mono ?_; rintro e w2 ⟨rfl, rfl⟩)
    go_ret
    exact ⟨rfl, Below.refl _ _⟩
  rw [decide_eq_true hb20] at HB
  by_cases hb16 : l.length ≤ 65536
  rotate_left
  · have t1 : decide ((l.length : Int) > 65536) = true := by simp; omega
    clear hsrc htab hb20
    go_enter Tryf.func5, Tryf.ntmps5
    go_wp2_with (go_at_call 20; refine (HB _).mono ?_; rintro e w2 ⟨rfl, rfl⟩)
    go_ret
    exact ⟨rfl, Below.refl _ _⟩
  have t1 : decide ((l.length : Int) > 65536) = false := by simp; omega
  have HT := Lib.hid htab
  have HS := Lib.hid hsrc
  have HN := Lib.hid hnil
  have HKW := Lib.hid hkw
  clear htab hsrc hnil hb20 hkw
  have HCL := Lib.hid (clone_any oA cap l w HS.out HN.out (by omega))
  have hfirst : (0 < l.length ∧ (128 ≤ bt l 0 ∨ idp (bt l 0 : Int) = true)) ∨ (0 < l.length → bt l 0 < 128 ∧ idp (bt l 0 : Int) = false) := by
    by_cases h0 : 0 < l.length
    · by_cases h1 : 128 ≤ bt l 0
      · exact Or.inl ⟨h0, Or.inl h1⟩
      · rcases h2 : idp (bt l 0 : Int) with _ | _
        · exact Or.inr (fun _ => ⟨by omega, rfl⟩)
        · exact Or.inl ⟨h0, Or.inr rfl⟩
    · exact Or.inr (fun h => absurd h h0)
  rcases hfirst with ⟨h0, hcase⟩ | hfirst
  · obtain ⟨b, o, rfl, hbb, hcc⟩ := HS.out.at_ h0
    have c1 : w.cell? ⟨b, o, none⟩ = some (.int .u8 (bt l 0 : Int)) := by
      rw [show (⟨b, o, none⟩ : Addr) = ⟨b, o + 0, none⟩ from rfl, hcc 0 h0]
      simp [bt, List.getD, h0]
    have hbt := bt_lt l 0
    have t0 : decide ((l.length : Int) > 0) = true := by simp; omega
    have HIB := Lib.hid (fun W => identByte_any (bt l 0) hbt W)
    clear hcc
    by_cases h1 : 128 ≤ bt l 0
    · have t3 : decide ((bt l 0 : Int) ≥ 128) = true := by simp; omega
      go_enter Tryf.func5, Tryf.ntmps5
      go_wp2_with (go_at_call 20; refine (HB _).mono ?_; rintro e w2 ⟨rfl, rfl⟩)
      go_ret
      exact ⟨rfl, Below.refl _ _⟩
    · have t3 : decide ((bt l 0 : Int) ≥ 128) = false := by simp; omega
      have hi : idp (bt l 0 : Int) = true := by
        rcases hcase with h | h
        · omega
        · exact h
      rw [hi] at HIB
      clear hcase hi
      go_enter Tryf.func5, Tryf.ntmps5
      go_wp2_with first | (go_at_call 20; refine (HB _).mono ?_; rintro e w2 ⟨rfl, rfl⟩) | (go_at_call 21; refine (HIB.out _).mono ?_; rintro e w2 ⟨rfl, rfl⟩)
      go_ret
      exact ⟨rfl, Below.refl _ _⟩
  have HFIRST := Lib.hid hfirst
  clear hfirst
  have HUP : Hid (∀ (w1 : World) (oB : Option Addr) (cap1 : Nat), l.length ≤ cap1 → SrcAt w1 w1.heap.size oB l → Below w.heap.size w w1 → Calls Tryf.prog 8 #[.int .u8 ((120 : Nat) : Int), .slice oB l.length cap1] w1 (LeadPost 120 l w1)) := Lib.hid (fun w1 oB cap1 h1 h2 h3 => lead_any 120 (by decide) oB cap1 l w1 h2 (by omega))
  have hgo : ∀ t0 : Unit, True := fun _ => trivial
  clear hgo
  rcases Nat.eq_zero_or_pos l.length with hz | hp
  all_goals
    first
    | (have t0 : decide ((l.length : Int) > 0) = false := decide_eq_false (by omega)
       have t0b : decide (0 < l.length) = false := decide_eq_false (by omega)
       have t0c : ¬ 0 < l.length := by omega
       clear hz)
    | (obtain ⟨b, o, rfl, hbb, hcc⟩ := HS.out.at_ hp
       have c1 : w.cell? ⟨b, o, none⟩ = some (.int .u8 (bt l 0 : Int)) := by (rw [show (⟨b, o, none⟩ : Addr) = ⟨b, o + 0, none⟩ from rfl, hcc 0 hp]; simp [bt, List.getD, hp])
       have hbt := bt_lt l 0
       have t0 : decide ((l.length : Int) > 0) = true := by (simp; omega)
       have t3 : decide ((bt l 0 : Int) ≥ 128) = false := by (have := (HFIRST.out hp).1; simp; omega)
       have HIB := Lib.hid (fun W => identByte_any (bt l 0) hbt W)
       rw [(HFIRST.out hp).2] at HIB
       clear hcc)
    go_enter Tryf.func5, Tryf.ntmps5
    first
    | (go_wp2_with first | (go_at_call 20; refine (HB _).mono ?_; rintro e w2 ⟨rfl, rfl⟩) | (go_at_call 21; refine (HIB.out _).mono ?_; rintro e w2 ⟨rfl, rfl⟩) | (go_at_call 7; refine Hid.out ?_))
    | (go_wp2_with first | (go_at_call 20; refine (HB _).mono ?_; rintro e w2 ⟨rfl, rfl⟩) | (go_at_call 7; refine Hid.out ?_))
    refine Lib.hid ?_
    refine HCL.out.mono ?_
    rintro e w1 ⟨oB, cap1, rfl, hcap1, hsrc1, _, hb1⟩
    have hz1 := hb1.size
    have HLD := Lib.hid (HUP.out w1 oB cap1 hcap1 hsrc1 hb1)
    have T1 := Lib.hid (tabs_keep HT.out hg.1 hg.2 hb1.block)
    have B1 := Lib.hid hb1
    have K1 := Lib.hid (HKW.out.below HKW.out.1 hb1)
    clear hsrc1 hb1 HCL HS HN HT HUP
    go_wp2_with (go_at_call 8; refine Hid.out ?_)
    refine Lib.hid ?_
    refine HLD.out.mono ?_
    rintro e w2 ⟨gb, cp, rfl, hcp, hs2, hb2⟩
    have hz2 := hb2.size
    obtain ⟨src, hsrcd⟩ : ∃ src, src = UInt8.ofNat 120 :: l := ⟨_, rfl⟩
    rw [← hsrcd] at hs2
    have hlen2 : src.length = l.length + 1 := by rw [hsrcd]; rfl
    have hb0 : bt src 0 = 120 := by rw [hsrcd]; rfl
    have hb1 : bt src 1 = bt l 0 := by rw [hsrcd]; simp [bt, List.getD]
    rw [← hlen2] at hcp ⊢
    obtain ⟨b3, o3, eo3, hbb3, hcc3⟩ := hs2.at_ (by omega)
    injection eo3 with eo3
    injection eo3 with e1 e2
    subst e1 e2
    have HM := Lib.hid (mk_any (some ⟨gb, 0, none⟩) cp src w2 hs2 (tabs_keep T1.out (by omega) (by omega) hb2.block) (by omega) (by omega) hcp)
    have hle1 : src.length ≤ 65537 := by omega
    have hle2 : 1 ≤ src.length := by omega
    have hfin : 1 < src.length → bt src 1 < 128 ∧ idp (bt src 1 : Int) = false := fun h => by rw [hb1]; exact HFIRST.out (by omega)
    have HFIN := Lib.hid hfin
    clear hlen2
    have B2 := Lib.hid (B1.out.trans (hb2.mono hz1))
    have K2 := Lib.hid (K1.out.below K1.out.1 hb2)
    have HCC3 := Lib.hid hcc3
    have HB0 := Lib.hid hb0
    clear hs2 hb2 hcc3 HLD T1 B1 K1 hsrcd hb0 hb1 hfin HFIRST HKW
    go_wp2_with fail
    go_loop [4] (fun i => ∃ k : Nat, 1 ≤ k ∧ k ≤ src.length ∧ i = .int .i64 k ∧ ∀ j, 1 ≤ j → j < k → (bt src j = 32 ∨ bt src j = 9 ∨ bt src j = 13)) (fun i => src.length - (intOf i).toNat)
    case atStart => exact ⟨1, Nat.le_refl _, hle2, rfl, fun j h1 h2 => by omega⟩
    case round =>
      obtain ⟨k, hk1, hk2, rfl, hall⟩ := hrel
      have HAL := Lib.hid hall
      clear hall
      have hdec : (k < src.length ∧ (bt src k = 32 ∨ bt src k = 9 ∨ bt src k = 13)) ∨ (k < src.length → ¬ (bt src k = 32 ∨ bt src k = 9 ∨ bt src k = 13)) := by
        by_cases h : k < src.length
        · by_cases h2 : (bt src k = 32 ∨ bt src k = 9 ∨ bt src k = 13)
          · exact Or.inl ⟨h, h2⟩
          · exact Or.inr (fun _ => h2)
        · exact Or.inr (fun h' => absurd h' h)
      rcases hdec with ⟨hlt, hws⟩ | hstop
      · have c1 : w2.cell? ⟨gb, k, none⟩ = some (.int .u8 (bt src k : Int)) := by
          have := HCC3.out k hlt
          simpa [bt, List.getD, hlt] using this
        have tl : decide ((k : Int) < (src.length : Int)) = true := by simp; omega
        have HNX : Hid (∀ j, 1 ≤ j → j < k + 1 → (bt src j = 32 ∨ bt src j = 9 ∨ bt src j = 13)) := Lib.hid (fun j h1 h2 => if e : j = k then by rw [e]; exact hws else HAL.out j h1 (by omega))
        rcases hws with h | h | h
        · rw [h] at c1
          clear h
          go_wp2_with fail
          go_round
          case rel => exact ⟨k + 1, by omega, by omega, by go_num, HNX.out⟩
          case measure => simp [intOf]; omega
        · rw [h] at c1
          clear h
          go_wp2_with fail
          go_round
          case rel => exact ⟨k + 1, by omega, by omega, by go_num, HNX.out⟩
          case measure => simp [intOf]; omega
        · rw [h] at c1
          clear h
          go_wp2_with fail
          go_round
          case rel => exact ⟨k + 1, by omega, by omega, by go_num, HNX.out⟩
          case measure => simp [intOf]; omega
      · have HST := Lib.hid hstop
        have hcell : Hid (k < src.length → w2.cell? ⟨gb, k, none⟩ = some (.int .u8 (bt src k : Int))) := Lib.hid (fun hlt => by
          have := HCC3.out k hlt
          simpa [bt, List.getD, hlt] using this)
        clear hstop
        rcases Nat.lt_or_ge k src.length with hlt | hge
        all_goals
          first
          | (have hns := HST.out hlt
             have tl : decide ((k : Int) < (src.length : Int)) = true := by (simp; omega)
             have c1 := hcell.out hlt
             have t5 : ((bt src k : Int) == 32) = false := by (simp; omega)
             have t6 : ((bt src k : Int) == 9) = false := by (simp; omega)
             have t7 : ((bt src k : Int) == 13) = false := by (simp; omega)
             clear hns)
          | (have tl : decide ((k : Int) < (src.length : Int)) = false := by (simp; omega))
          go_wp2_with (go_at_call 9; refine Hid.out ?_)
          refine Lib.hid ?_
          refine HM.out.mono ?_
          rintro e w3 ⟨Fx, rfl, hFB, hFo, hFc, hs3, hb3⟩
          have hst := stNew_ascii src (by omega) (by have := HB0.out; omega)
          have hmo := stNew_mode src 0
          have hec0 := stNew_ec0 src (by omega) (by have := HB0.out; omega) (by have := HB0.out; omega)
          have hch := (nx_ascii (stNew_good src 0) (by omega) (by rw [hst.1]; have := HB0.out; omega)).1
          rw [hst.1, HB0.out] at hch
          have hrun : RunEnd src (stNew src 0).off ((stNew src 0).off + 1) := by
            rw [hst.1]
            refine ⟨by omega, by omega, fun i i1 i2 => ?_, fun h => (HFIN.out h).2⟩
            obtain rfl : i = 0 := by omega
            rw [HB0.out]
            decide
          have HSI := Lib.hid (scanId1_any Fx src (stNew src 0) w3 hs3 (stNew_good src 0) (by rw [hch]; decide) hrun (by rw [hst.1]; exact fun h => (HFIN.out h).1) hmo (K2.out.below K2.out.1 hb3) (by have := K2.out.1; omega) (by rw [hec0]; omega))
          have HOF := Lib.hid hst.1
          have B3 := Lib.hid (B2.out.trans (hb3.mono (by omega)))
          have B3b := Lib.hid hb3
          have HE0 := Lib.hid hec0
          clear hst hmo hec0 hch hrun hs3 hb3 HM hFo hFc
          go_wp2_with (go_at_call 22; refine Hid.out ?_)
          refine Lib.hid ?_
          refine HSI.out.mono ?_
          rintro e w4 ⟨t, zz, rfl, hin, hto, hs4, hb4⟩
          rw [HOF.out] at hto
          have hgt : Good src { t with semi := true } := hin.good
          have hec4 : t.ec ≤ 1 := by
            have := hin.ec
            rw [HE0.out] at this
            rw [this]
            split <;> omega
          obtain ⟨s4, hs4d⟩ : ∃ s4 : St, s4 = { t with semi := true } := ⟨_, rfl⟩
          have e1 : s4.off = 1 := by rw [hs4d]; exact hto
          have e2 : s4.semi = true := by rw [hs4d]
          have e3 : s4.ec ≤ 1 := by rw [hs4d]; exact hec4
          rw [← hs4d] at hs4 hgt
          have H4 := Lib.hid hs4
          have HG4 := Lib.hid hgt
          have HE4 : Hid (s4.off = 1 ∧ s4.semi = true ∧ s4.ec ≤ 1) := Lib.hid ⟨e1, e2, e3⟩
          have B4 := Lib.hid (B3b.out.trans (hb4.mono hFB))
          have HO4 := Lib.hid (fun W (h : SC Fx src s4 W) => zzoff_any Fx src s4 W h)
          rw [e1] at HO4
          have HSK := Lib.hid (skip_any Fx src s4 w4 hs4 hgt (by omega))
          clear e1 e2 e3 hs4d hec4 hgt hs4 hb4 hto hin HSI HOF B3b HE0
          go_wp2_with first | (go_at_call 18; refine (HO4.out _ H4.out).mono ?_; rintro e w' ⟨rfl, rfl⟩) | (go_at_call 23; refine Hid.out ?_)
          refine Lib.hid ?_
          refine (zzskip_any Fx src s4 w4 HSK.out).mono ?_
          rintro e w5 ⟨u, rfl, hsk, _, hs5, hb5⟩
          have hfar := skip_far hsk k HG4.out HE4.out.2.1 (by rw [HE4.out.1]; exact hk1) hk2 (fun j j1 j2 => HAL.out j (by rw [HE4.out.1] at j1; exact j1) j2) HST.out
          have HO5 := Lib.hid (fun W (h : SC Fx src u W) => zzoff_any Fx src u W h)
          rw [hfar.1] at HO5
          have HC5 := Lib.hid (fun W (h : SC Fx src u W) => zzch_any Fx src u W h)
          have HU := Lib.hid hfar
          have H5 := Lib.hid hs5
          have B5 := Lib.hid (B4.out.trans (hb5.mono hFB))
          clear hsk hs5 hb5 hfar HSK HO4 B4 H4 HG4 HE4
          first
          | (have c5 := (B5.out.cell (p := ⟨gb, k, none⟩) (by exact hbb3)).trans (hcell.out hlt)
             by_cases h10 : bt src k = 10
             · have hc10 : u.ch = 10 := (HU.out.2.ascii 10 (by decide)).2 (by rw [HU.out.1]; exact ⟨hlt, h10⟩)
               rw [h10] at c5
               rw [hc10] at HC5
               clear h10 hc10 c1 t5 t6 t7
               go_wp2_with first | (go_at_call 18; refine (HO5.out _ H5.out).mono ?_; rintro e w' ⟨rfl, rfl⟩) | (go_at_call 19; refine (HC5.out _ H5.out).mono ?_; rintro e w' ⟨rfl, rfl⟩)
               go_ret
               exact ⟨rfl, B2.out.trans (B5.out.mono (by omega))⟩
             · have t8 : ((bt src k : Int) == 10) = false := by (simp; omega)
               go_wp2_with (go_at_call 18; refine (HO5.out _ H5.out).mono ?_; rintro e w' ⟨rfl, rfl⟩)
               go_ret
               exact ⟨rfl, B2.out.trans (B5.out.mono (by omega))⟩)
          | (go_wp2_with (go_at_call 18; refine (HO5.out _ H5.out).mono ?_; rintro e w' ⟨rfl, rfl⟩)
             go_ret
             exact ⟨rfl, B2.out.trans (B5.out.mono (by omega))⟩)
end Go.Proofs.YtioikpfebdnndaaFmt
