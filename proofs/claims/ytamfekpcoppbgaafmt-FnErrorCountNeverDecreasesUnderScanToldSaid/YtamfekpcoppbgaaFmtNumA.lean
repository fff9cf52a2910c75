/-
  scanNumber at whatever source. Conditions: as stated.
-/
import Derived.Test.YtamfekpcoppbgaaFmtSwA
import Derived.Test.YtamfekpcoppbgaaFmtStrG
import Derived.Deep.DeepCutAuto
namespace Go.Proofs.YtamfekpcoppbgaaFmt
open Go.RowKit
set_option maxRecDepth 100000
set_option linter.unusedVariables false

def lw (c : Nat) : Int := bits .or .u8 (c : Int) 32
theorem lower_any (c : Nat) (w : World) : Calls Tryf.prog 53 #[.int .u8 (c : Int)] w fun e w' => e = .returned (.int .u8 (lw c)) ∧ w = w' := by
  go_enter Tryf.func53, Tryf.ntmps53
  go_wp2
  go_ret
  exact ⟨rfl, rfl⟩
/-- the base, and the state behind its prefix -/
def numB (src : List UInt8) (s : St) : Nat := if s.ch = 48 then (if lw (bt src s.rd) = 98 then 2 else if lw (bt src s.rd) = 111 then 8 else if lw (bt src s.rd) = 120 then 16 else 10) else 10
def numS (src : List UInt8) (s : St) : St := if numB src s = 10 then s else nx src (nx src s)
def fracC (b : Nat) (c : Int) : Bool := decide (c = 46 ∧ (b = 10 ∨ b = 16))
inductive FracR (src : List UInt8) (b : Nat) : St → Bool → St → Prop
  | yes {s t : St} : fracC b s.ch = true → DigR src b (nx src s) t → FracR src b s true t
  | no {s : St} : fracC b s.ch = false → FracR src b s false s
def expC (c : Int) : Bool := decide (c = 101 ∨ c = 69 ∨ c = 112 ∨ c = 80)
def sgnC (c : Int) : Bool := decide (c = 45 ∨ c = 43)
def expS (src : List UInt8) (s : St) : St := if sgnC s.ch = true then nx src s else s
def expE (s t : St) : St := if s.off = t.off then err t else t
inductive ExpR (src : List UInt8) : St → Bool → St → Prop
  | yes {s t : St} : expC s.ch = true → DigR src 10 (expS src (nx src s)) t → ExpR src s true (expE (expS src (nx src s)) t)
  | no {s : St} : expC s.ch = false → ExpR src s false s
def NumR (src : List UInt8) (s : St) (tok : Int) (t : St) : Prop :=
  ∃ (a b : St) (p q : Bool), DigR src (numB src s) (numS src s) a ∧ FracR src (numB src s) a p b ∧ ExpR src b q t ∧ tok = (if p || q then 6 else 5)
theorem OnWay2.trans {src : List UInt8} {a b c : St} (h : OnWay2 src a b) (k : OnWay2 src b c) : OnWay2 src a c := ⟨k.good, Nat.le_trans h.lo k.lo, by have := h.ec; have := k.ec; omega⟩
theorem OnWay.two {src : List UInt8} {a b : St} (h : OnWay src a b) : OnWay2 src a b := ⟨h.good, h.lo, by have := h.ec; have := h.lo; omega⟩
theorem numB_cases (src : List UInt8) (s : St) : (numB src s = 10 ∧ (s.ch ≠ 48 ∨ (lw (bt src s.rd) ≠ 98 ∧ lw (bt src s.rd) ≠ 111 ∧ lw (bt src s.rd) ≠ 120))) ∨ (numB src s = 2 ∧ s.ch = 48 ∧ lw (bt src s.rd) = 98) ∨
    (numB src s = 8 ∧ s.ch = 48 ∧ lw (bt src s.rd) = 111) ∨ (numB src s = 16 ∧ s.ch = 48 ∧ lw (bt src s.rd) = 120) := by
  unfold numB
  by_cases h : s.ch = 48
  · rw [if_pos h]
    by_cases h1 : lw (bt src s.rd) = 98
    · rw [if_pos h1]
      exact Or.inr (Or.inl ⟨rfl, h, h1⟩)
    rw [if_neg h1]
    by_cases h2 : lw (bt src s.rd) = 111
    · rw [if_pos h2]
      exact Or.inr (Or.inr (Or.inl ⟨rfl, h, h2⟩))
    rw [if_neg h2]
    by_cases h3 : lw (bt src s.rd) = 120
    · rw [if_pos h3]
      exact Or.inr (Or.inr (Or.inr ⟨rfl, h, h3⟩))
    rw [if_neg h3]
    exact Or.inl ⟨rfl, Or.inr ⟨h1, h2, h3⟩⟩
  · rw [if_neg h]
    exact Or.inl ⟨rfl, Or.inl h⟩
theorem lw0 : lw 0 = 32 := by kernel_rfl
theorem numS_way {src : List UInt8} {s : St} (hg : Good src s) : OnWay2 src s (numS src s) := by
  unfold numS
  by_cases hb : numB src s = 10
  · rw [if_pos hb]
    exact OnWay2.refl hg
  rw [if_neg hb]
  have hne : lw (bt src s.rd) ≠ 32 ∧ s.ch = 48 := by
    rcases numB_cases src s with ⟨h, _⟩ | ⟨_, h, h2⟩ | ⟨_, h, h2⟩ | ⟨_, h, h2⟩
    · exact absurd h hb
    · exact ⟨by omega, h⟩
    · exact ⟨by omega, h⟩
    · exact ⟨by omega, h⟩
  have hrd : s.rd < src.length := by
    rcases Nat.lt_or_ge s.rd src.length with h | h
    · exact h
    · have e0 : bt src s.rd = 0 := by
        unfold bt
        rw [List.getD, List.getElem?_eq_none h]
        rfl
      rw [e0, lw0] at hne
      exact absurd rfl hne.1
  have w1 := (OnWay2.refl hg).next (by omega)
  refine w1.next ?_
  unfold nx
  rw [if_pos hrd]
  show (0 : Int) ≤ ((rn src s.rd).1 : Int)
  omega
theorem dig_pos (b : Nat) : (-9223372036854775808 : Int) ≤ (b : Int) := by omega
def NmPost (F : Fix) (src : List UInt8) (s : St) (w : World) (e : Ending) (w' : World) : Prop :=
  ∃ tok t, NumR src s tok t ∧ OnWay2 src s t ∧ e = .returned (.tuple #[.int .i64 tok, .string ⟨(cut src s.off t.off).toArray⟩]) ∧ SC F src t w' ∧ Below F.B w w'

set_option maxHeartbeats 16000000 in
theorem scanNumber_any (F : Fix) (src : List UInt8) (s : St) (w : World) (h : SC F src s w) (hg : Good src s) (hlt0 : s.off < src.length) (hec : s.ec ≤ 100000000000) :
    Calls Tryf.prog 36 #[.pointer (some ⟨F.gS, 0, none⟩)] w (NmPost F src s w) := by
  have c2 : w.cell? ⟨F.gS, 2, none⟩ = some (.int .i32 s.ch) := by rw [h.blkS.cell]; rfl
  have c3 : w.cell? ⟨F.gS, 3, none⟩ = some (.int .i64 s.off) := by rw [h.blkS.cell]; rfl
  have hlen := h.len
  have hcap := h.cap
  have hcases := numB_cases src s
  have hway := numS_way hg
  obtain ⟨b, hb⟩ : ∃ b, numB src s = b := ⟨_, rfl⟩
  have hbr : b = 10 ∨ b = 2 ∨ b = 8 ∨ b = 16 := by
    rcases hcases with ⟨h, _⟩ | ⟨h, _⟩ | ⟨h, _⟩ | ⟨h, _⟩ <;> omega
  obtain ⟨j, hj⟩ : ∃ j, s.off = j := ⟨_, rfl⟩
  rw [hj] at c3 hlt0
  have HJ := Lib.hid hj
  have HB := Lib.hid hb
  have HC := Lib.hid hcases
  have HW := Lib.hid hway
  have S0 := Lib.hid h
  have hse : (nx src s).ec ≤ s.ec + 1 := nx_ec1 src s
  clear h hg hcases hway hj hb
  go_enter Tryf.func36, Tryf.ntmps36
  go_upto_block 0 with fail
  go_cut [6] (fun v6 wx => v6 = .int .i64 (b : Int) ∧ SC F src (numS src s) wx ∧ Below F.B w wx)
  case first =>
    have HPK := Lib.hid (peek_any F src s w S0.out)
    have HLW := Lib.hid (fun W => lower_any (bt src s.rd) W)
    have HPD : Hid (∀ n, Calls Tryf.prog 35 #[.pointer (some ⟨F.gS, 0, none⟩)] (w.drewN n) fun e w' => e = .returned (.int .u8 (bt src s.rd : Int)) ∧ ∃ m, w' = w.drewN m) := Lib.hid (fun n => (peek_any F src s (w.drewN n) (S0.out.drewN n)).mono (fun _ _ ⟨h1, m, h2⟩ => ⟨h1, _, h2.trans (World.drewN_drewN _ _ _)⟩))
    rcases HC.out with ⟨hb, hx⟩ | ⟨hb, hch, hl⟩ | ⟨hb, hch, hl⟩ | ⟨hb, hch, hl⟩
    · have hb2 : b = 10 := HB.out.symm.trans hb
      have HNB := Lib.hid hb
      have HB2 := Lib.hid hb2
      by_cases h48 : s.ch = 48
      · have t1 : (s.ch == 48) = true := by simpa using h48
        obtain ⟨y1, y2, y3⟩ : lw (bt src s.rd) ≠ 98 ∧ lw (bt src s.rd) ≠ 111 ∧ lw (bt src s.rd) ≠ 120 := by
          rcases hx with h | h
          · exact absurd h48 h
          · exact h
        have t2 : (lw (bt src s.rd) == 98) = false := by simpa using y1
        have t3 : (lw (bt src s.rd) == 111) = false := by simpa using y2
        have t4 : (lw (bt src s.rd) == 120) = false := by simpa using y3
        clear hb hx hb2 h48 y1 y2 y3
        go_wp2_with (go_at_call 35; refine Hid.out ?_)
        refine Lib.hid ?_
        refine (peek_any F src s w S0.out).mono ?_
        rintro e wp0 ⟨rfl, n0, rfl⟩
        go_wp2_with (go_at_call 53; refine Hid.out ?_)
        refine Lib.hid ?_
        refine (HLW.out _).mono ?_
        rintro e wq0 ⟨rfl, rfl⟩
        go_wp2_with (go_at_call 35; refine Hid.out ?_)
        refine Lib.hid ?_
        refine (HPD.out n0).mono ?_
        rintro e wp1 ⟨rfl, n1, rfl⟩
        go_wp2_with (go_at_call 53; refine Hid.out ?_)
        refine Lib.hid ?_
        refine (HLW.out _).mono ?_
        rintro e wq1 ⟨rfl, rfl⟩
        go_wp2_with (go_at_call 35; refine Hid.out ?_)
        refine Lib.hid ?_
        refine (HPD.out n1).mono ?_
        rintro e wp2 ⟨rfl, n2, rfl⟩
        go_wp2_with (go_at_call 53; refine Hid.out ?_)
        refine Lib.hid ?_
        refine (HLW.out _).mono ?_
        rintro e wq2 ⟨rfl, rfl⟩
        go_wp2_with fail
        go_meet
        exact ⟨by rw [HB2.out]; rfl, by unfold numS; rw [if_pos HNB.out]; exact S0.out.drewN n2, below_drewN0 (Below.refl _ _) n2⟩
      · have t1 : (s.ch == 48) = false := by simpa using h48
        clear hb hx hb2 h48
        go_wp2_with fail
        go_meet
        exact ⟨by rw [HB2.out]; rfl, by unfold numS; rw [if_pos HNB.out]; exact S0.out, Below.refl _ _⟩
    · have hb2 : b = 2 := HB.out.symm.trans hb
      have HNB := Lib.hid hb
      have HB2 := Lib.hid hb2
      have HNE : Hid (numS src s = nx src (nx src s)) := Lib.hid (by unfold numS; rw [if_neg (by omega)])
      have t1 : (s.ch == 48) = true := by simpa using hch
      have y98 : (lw (bt src s.rd) == 98) = true := by rw [hl]; rfl
      have y111 : (lw (bt src s.rd) == 111) = false := by rw [hl]; rfl
      have y120 : (lw (bt src s.rd) == 120) = false := by rw [hl]; rfl
      have hn2 := nx_ec1 src (nx src s)
      clear hb hb2 hch hl
      go_wp2_with (go_at_call 35; refine Hid.out ?_)
      refine Lib.hid ?_
      refine (peek_any F src s w S0.out).mono ?_
      rintro e wp0 ⟨rfl, n0, rfl⟩
      go_wp2_with (go_at_call 53; refine Hid.out ?_)
      refine Lib.hid ?_
      refine (HLW.out _).mono ?_
      rintro e wq0 ⟨rfl, rfl⟩
      go_wp2_with (go_at_call 37; refine Hid.out ?_)
      refine Lib.hid ?_
      refine (next_any F src s _ (S0.out.drewN n0) (by omega)).mono ?_
      rintro e w4 ⟨rfl, hs4, hb4⟩
      have S4 := Lib.hid hs4
      have B4 := Lib.hid ((below_drewN0 (Below.refl F.B w) n0).trans hb4)
      clear hs4 hb4
      go_wp2_with (go_at_call 37; refine Hid.out ?_)
      refine Lib.hid ?_
      refine (next_any F src (nx src s) _ S4.out (by omega)).mono ?_
      rintro e w5 ⟨rfl, hs5, hb5⟩
      have S5 := Lib.hid hs5
      have B5 := Lib.hid (B4.out.trans hb5)
      clear hs5 hb5
      go_wp2_with fail
      go_meet
      exact ⟨by rw [HB2.out]; rfl, by rw [HNE.out]; exact S5.out, B5.out⟩
    · have hb2 : b = 8 := HB.out.symm.trans hb
      have HNB := Lib.hid hb
      have HB2 := Lib.hid hb2
      have HNE : Hid (numS src s = nx src (nx src s)) := Lib.hid (by unfold numS; rw [if_neg (by omega)])
      have t1 : (s.ch == 48) = true := by simpa using hch
      have y98 : (lw (bt src s.rd) == 98) = false := by rw [hl]; rfl
      have y111 : (lw (bt src s.rd) == 111) = true := by rw [hl]; rfl
      have y120 : (lw (bt src s.rd) == 120) = false := by rw [hl]; rfl
      have hn2 := nx_ec1 src (nx src s)
      clear hb hb2 hch hl
      go_wp2_with (go_at_call 35; refine Hid.out ?_)
      refine Lib.hid ?_
      refine (peek_any F src s w S0.out).mono ?_
      rintro e wp0 ⟨rfl, n0, rfl⟩
      go_wp2_with (go_at_call 53; refine Hid.out ?_)
      refine Lib.hid ?_
      refine (HLW.out _).mono ?_
      rintro e wq0 ⟨rfl, rfl⟩
      go_wp2_with (go_at_call 35; refine Hid.out ?_)
      refine Lib.hid ?_
      refine (HPD.out n0).mono ?_
      rintro e wp1 ⟨rfl, n1, rfl⟩
      go_wp2_with (go_at_call 53; refine Hid.out ?_)
      refine Lib.hid ?_
      refine (HLW.out _).mono ?_
      rintro e wq1 ⟨rfl, rfl⟩
      go_wp2_with (go_at_call 37; refine Hid.out ?_)
      refine Lib.hid ?_
      refine (next_any F src s _ (S0.out.drewN n1) (by omega)).mono ?_
      rintro e w4 ⟨rfl, hs4, hb4⟩
      have S4 := Lib.hid hs4
      have B4 := Lib.hid ((below_drewN0 (Below.refl F.B w) n1).trans hb4)
      clear hs4 hb4
      go_wp2_with (go_at_call 37; refine Hid.out ?_)
      refine Lib.hid ?_
      refine (next_any F src (nx src s) _ S4.out (by omega)).mono ?_
      rintro e w5 ⟨rfl, hs5, hb5⟩
      have S5 := Lib.hid hs5
      have B5 := Lib.hid (B4.out.trans hb5)
      clear hs5 hb5
      go_wp2_with fail
      go_meet
      exact ⟨by rw [HB2.out]; rfl, by rw [HNE.out]; exact S5.out, B5.out⟩
    · have hb2 : b = 16 := HB.out.symm.trans hb
      have HNB := Lib.hid hb
      have HB2 := Lib.hid hb2
      have HNE : Hid (numS src s = nx src (nx src s)) := Lib.hid (by unfold numS; rw [if_neg (by omega)])
      have t1 : (s.ch == 48) = true := by simpa using hch
      have y98 : (lw (bt src s.rd) == 98) = false := by rw [hl]; rfl
      have y111 : (lw (bt src s.rd) == 111) = false := by rw [hl]; rfl
      have y120 : (lw (bt src s.rd) == 120) = true := by rw [hl]; rfl
      have hn2 := nx_ec1 src (nx src s)
      clear hb hb2 hch hl
      go_wp2_with (go_at_call 35; refine Hid.out ?_)
      refine Lib.hid ?_
      refine (peek_any F src s w S0.out).mono ?_
      rintro e wp0 ⟨rfl, n0, rfl⟩
      go_wp2_with (go_at_call 53; refine Hid.out ?_)
      refine Lib.hid ?_
      refine (HLW.out _).mono ?_
      rintro e wq0 ⟨rfl, rfl⟩
      go_wp2_with (go_at_call 35; refine Hid.out ?_)
      refine Lib.hid ?_
      refine (HPD.out n0).mono ?_
      rintro e wp1 ⟨rfl, n1, rfl⟩
      go_wp2_with (go_at_call 53; refine Hid.out ?_)
      refine Lib.hid ?_
      refine (HLW.out _).mono ?_
      rintro e wq1 ⟨rfl, rfl⟩
      go_wp2_with (go_at_call 35; refine Hid.out ?_)
      refine Lib.hid ?_
      refine (HPD.out n1).mono ?_
      rintro e wp2 ⟨rfl, n2, rfl⟩
      go_wp2_with (go_at_call 53; refine Hid.out ?_)
      refine Lib.hid ?_
      refine (HLW.out _).mono ?_
      rintro e wq2 ⟨rfl, rfl⟩
      go_wp2_with (go_at_call 37; refine Hid.out ?_)
      refine Lib.hid ?_
      refine (next_any F src s _ (S0.out.drewN n2) (by omega)).mono ?_
      rintro e w4 ⟨rfl, hs4, hb4⟩
      have S4 := Lib.hid hs4
      have B4 := Lib.hid ((below_drewN0 (Below.refl F.B w) n2).trans hb4)
      clear hs4 hb4
      go_wp2_with (go_at_call 37; refine Hid.out ?_)
      refine Lib.hid ?_
      refine (next_any F src (nx src s) _ S4.out (by omega)).mono ?_
      rintro e w5 ⟨rfl, hs5, hb5⟩
      have S5 := Lib.hid hs5
      have B5 := Lib.hid (B4.out.trans hb5)
      clear hs5 hb5
      go_wp2_with fail
      go_meet
      exact ⟨by rw [HB2.out]; rfl, by rw [HNE.out]; exact S5.out, B5.out⟩
  case rest =>
  obtain ⟨rfl, hs1, hb1⟩ := hcut
  have S1 := Lib.hid hs1
  have B1 := Lib.hid hb1
  have hwe := HW.out.ec
  have hwo := HW.out.lo
  have hjj := HJ.out
  have hso := hs1.off
  have H1 := Lib.hid (digits_any F src (b : Int) (numS src s) wc hs1 HW.out.good (by omega) (by omega) (by omega))
  clear hs1 hb1 S0 c2 HC
  go_wp2_with (go_at_call 54; refine Hid.out ?_)
  refine Lib.hid ?_
  refine H1.out.mono ?_
  rintro e w2 ⟨a, rfl, hd1, hw1, hs2, hb2⟩
  have hw2 := HW.out.trans hw1.two
  have hae := hw2.ec
  have hao := hw2.lo
  have had := hs2.off
  have D1 := Lib.hid hd1
  have W2 := Lib.hid hw2
  have S2 := Lib.hid hs2
  have B2 := Lib.hid (B1.out.trans hb2)
  have d2 : w2.cell? ⟨F.gS, 2, none⟩ = some (.int .i32 a.ch) := by rw [hs2.blkS.cell]; rfl
  clear hd1 hw1 hw2 hs2 hb2 S1 B1 H1
  go_upto_region 17 with fail
  go_cut [5, 75] (fun v5 v75 wx => v5 = .int .i64 5 ∧ v75 = .bool (fracC b a.ch) ∧ w2 = wx)
  case first =>
    by_cases hc : a.ch = 46
    · have t1 : (a.ch == 46) = true := by simpa using hc
      have hf : fracC b a.ch = decide (b = 10 ∨ b = 16) := by simp [fracC, hc]
      have HF := Lib.hid hf
      clear hc hf
      rcases hbr with rfl | rfl | rfl | rfl
      all_goals
        go_wp2_with fail
        go_meet
        exact ⟨rfl, by rw [HF.out] <;> rfl, rfl⟩
    · have t1 : (a.ch == 46) = false := by simpa using hc
      have hf : fracC b a.ch = false := by simp [fracC, hc]
      have HF := Lib.hid hf
      clear hc hf
      go_wp2_with fail
      go_meet
      exact ⟨rfl, by rw [HF.out] <;> rfl, rfl⟩
  case rest =>
  obtain ⟨rfl, rfl, rfl⟩ := hcut
  go_upto_if 75 with fail
  go_cut [5] (fun v5 wx => ∃ (p : Bool) (c : St), v5 = .int .i64 (if p then 6 else 5) ∧ FracR src b a p c ∧ OnWay2 src s c ∧ SC F src c wx ∧ Below F.B w wx)
  case first =>
    rcases hq : fracC b a.ch with _ | _
    · have HQ := Lib.hid hq
      clear hq
      go_wp2_with fail
      go_meet
      exact ⟨false, a, rfl, FracR.no HQ.out, W2.out, S2.out, B2.out⟩
    · have HQ := Lib.hid hq
      have hc46 : a.ch = 46 := (of_decide_eq_true hq).1
      have hw3 := W2.out.next (by omega)
      have hn3 := nx_ec1 src a
      clear hq
      go_wp2_with (go_at_call 37; refine Hid.out ?_)
      refine Lib.hid ?_
      refine (next_any F src a _ S2.out (by omega)).mono ?_
      rintro e w3 ⟨rfl, hs3, hb3⟩
      have H3 := Lib.hid (digits_any F src (b : Int) (nx src a) w3 hs3 hw3.good (by omega) (by omega) (by omega))
      have B3 := Lib.hid (B2.out.trans hb3)
      have W3 := Lib.hid hw3
      clear hs3 hb3 hw3 hc46
      go_wp2_with (go_at_call 54; refine Hid.out ?_)
      refine Lib.hid ?_
      refine H3.out.mono ?_
      rintro e w4 ⟨c, rfl, hd4, hw4, hs4, hb4⟩
      have D4 := Lib.hid (FracR.yes HQ.out hd4)
      have W4 := Lib.hid (W3.out.trans hw4.two)
      have S4 := Lib.hid hs4
      have B4 := Lib.hid (B3.out.trans hb4)
      clear hd4 hw4 hs4 hb4
      go_wp2_with fail
      go_meet
      exact ⟨true, c, rfl, D4.out, W4.out, S4.out, B4.out⟩
  case rest =>
  obtain ⟨p, c, rfl, hfr, hw5, hs5, hb5⟩ := hcut
  obtain ⟨tk, htk⟩ : ∃ tk : Int, (if p = true then 6 else 5) = tk := ⟨_, rfl⟩
  rw [htk]
  have HTK := Lib.hid htk
  clear htk
  have d2' : wc.cell? ⟨F.gS, 2, none⟩ = some (.int .i32 c.ch) := by rw [hs5.blkS.cell]; rfl
  have FR := Lib.hid hfr
  have W5 := Lib.hid hw5
  have S5 := Lib.hid hs5
  have B5 := Lib.hid hb5
  have hce := hw5.ec
  have hco := hw5.lo
  have hcl := hs5.off
  clear hfr hw5 hs5 hb5 d2 W2 S2 B2 c3
  go_upto_region 21 with fail
  go_cut [106] (fun v106 wx => v106 = .bool (expC c.ch) ∧ wc = wx)
  case first =>
    by_cases h1 : c.ch = 101
    · have t1 : (c.ch == 101) = true := by simpa using h1
      have hf : expC c.ch = true := by simp [expC, h1]
      have HF := Lib.hid hf
      clear h1 hf
      go_wp2_with fail
      go_meet
      exact ⟨by rw [HF.out] <;> rfl, rfl⟩
    have t1 : (c.ch == 101) = false := by simpa using h1
    by_cases h2 : c.ch = 69
    · have t2 : (c.ch == 69) = true := by simpa using h2
      have hf : expC c.ch = true := by simp [expC, h2]
      have HF := Lib.hid hf
      clear h1 h2 hf
      go_wp2_with fail
      go_meet
      exact ⟨by rw [HF.out] <;> rfl, rfl⟩
    have t2 : (c.ch == 69) = false := by simpa using h2
    by_cases h3 : c.ch = 112
    · have t3 : (c.ch == 112) = true := by simpa using h3
      have hf : expC c.ch = true := by simp [expC, h3]
      have HF := Lib.hid hf
      clear h1 h2 h3 hf
      go_wp2_with fail
      go_meet
      exact ⟨by rw [HF.out] <;> rfl, rfl⟩
    have t3 : (c.ch == 112) = false := by simpa using h3
    by_cases h4 : c.ch = 80
    · have t4 : (c.ch == 80) = true := by simpa using h4
      have hf : expC c.ch = true := by simp [expC, h4]
      have HF := Lib.hid hf
      clear h1 h2 h3 h4 hf
      go_wp2_with fail
      go_meet
      exact ⟨by rw [HF.out] <;> rfl, rfl⟩
    have t4 : (c.ch == 80) = false := by simpa using h4
    have hf : expC c.ch = false := by simp [expC, h1, h2, h3, h4]
    have HF := Lib.hid hf
    clear h1 h2 h3 h4 hf
    go_wp2_with fail
    go_meet
    exact ⟨by rw [HF.out] <;> rfl, rfl⟩
  case rest =>
  obtain ⟨rfl, rfl⟩ := hcut
  go_upto_if 106 with fail
  go_cut [5] (fun v5 wx => ∃ (q : Bool) (z : St), v5 = .int .i64 (if q then 6 else tk) ∧ ExpR src c q z ∧ OnWay2 src s z ∧ SC F src z wx ∧ Below F.B w wx)
  case first =>
    rcases hq : expC c.ch with _ | _
    · have HQ := Lib.hid hq
      clear hq
      go_wp2_with fail
      go_meet
      exact ⟨false, c, by simp, ExpR.no HQ.out, W5.out, S5.out, B5.out⟩
    · have HQ := Lib.hid hq
      have hcp : 0 ≤ c.ch := by have := of_decide_eq_true hq; omega
      have hw6 := W5.out.next hcp
      have hn6 := nx_ec1 src c
      have hst := step_of W5.out.good hcp
      have hfar := hst.far
      have hne := hst.ec
      have hwx : OnWay2 src (nx src c) (expS src (nx src c)) := by
        unfold expS
        by_cases hx : sgnC (nx src c).ch = true
        · rw [if_pos hx]
          exact (OnWay2.refl hst.good).next (by have := of_decide_eq_true hx; omega)
        · rw [if_neg hx]
          exact OnWay2.refl hst.good
      have HWX := Lib.hid hwx
      clear hq
      go_wp2_with (go_at_call 37; refine Hid.out ?_)
      refine Lib.hid ?_
      refine (next_any F src c _ S5.out (by omega)).mono ?_
      rintro e w6 ⟨rfl, hs6, hb6⟩
      have e2 : w6.cell? ⟨F.gS, 2, none⟩ = some (.int .i32 (nx src c).ch) := by rw [hs6.blkS.cell]; rfl
      have S6 := Lib.hid hs6
      have B6 := Lib.hid (B5.out.trans hb6)
      have W6 := Lib.hid hw6
      clear hs6 hb6 hw6 hst hwx d2'
      go_upto_region 24 with fail
      go_cut [120] (fun v120 wx => v120 = .bool (sgnC (nx src c).ch) ∧ w6 = wx)
      case first =>
        by_cases h1 : (nx src c).ch = 45
        · have t1 : ((nx src c).ch == 45) = true := by simpa using h1
          have hf : sgnC (nx src c).ch = true := by simp [sgnC, h1]
          have HF := Lib.hid hf
          clear h1 hf
          go_wp2_with fail
          go_meet
          exact ⟨by rw [HF.out] <;> rfl, rfl⟩
        have t1 : ((nx src c).ch == 45) = false := by simpa using h1
        by_cases h2 : (nx src c).ch = 43
        · have t2 : ((nx src c).ch == 43) = true := by simpa using h2
          have hf : sgnC (nx src c).ch = true := by simp [sgnC, h2]
          have HF := Lib.hid hf
          clear h1 h2 hf
          go_wp2_with fail
          go_meet
          exact ⟨by rw [HF.out] <;> rfl, rfl⟩
        have t2 : ((nx src c).ch == 43) = false := by simpa using h2
        have hf : sgnC (nx src c).ch = false := by simp [sgnC, h1, h2]
        have HF := Lib.hid hf
        clear h1 h2 hf
        go_wp2_with fail
        go_meet
        exact ⟨by rw [HF.out] <;> rfl, rfl⟩
      case rest =>
      obtain ⟨rfl, rfl⟩ := hcut
      go_upto_if 120 with fail
      go_cut [] (fun wx => SC F src (expS src (nx src c)) wx ∧ Below F.B w wx)
      case first =>
        rcases hx : sgnC (nx src c).ch with _ | _
        · have hd := hx
          have HE : Hid (expS src (nx src c) = nx src c) := Lib.hid (by unfold expS; rw [if_neg (by rw [hx]; decide)])
          clear hx hd
          go_wp2_with fail
          go_meet
          exact ⟨by rw [HE.out]; exact S6.out, B6.out⟩
        · have hd := hx
          have HE : Hid (expS src (nx src c) = nx src (nx src c)) := Lib.hid (by unfold expS; rw [if_pos hx])
          have hn7 := nx_ec1 src (nx src c)
          clear hx hd
          go_wp2_with (go_at_call 37; refine Hid.out ?_)
          refine Lib.hid ?_
          refine (next_any F src (nx src c) _ S6.out (by omega)).mono ?_
          rintro e w7 ⟨rfl, hs7, hb7⟩
          have S7 := Lib.hid hs7
          have B7 := Lib.hid (B6.out.trans hb7)
          clear hs7 hb7
          go_wp2_with fail
          go_meet
          exact ⟨by rw [HE.out]; exact S7.out, B7.out⟩
      case rest =>
      obtain ⟨hs8, hb8⟩ := hcut
      have hx1 := HWX.out.ec
      have hx2 := HWX.out.lo
      have hx3 := hs8.off
      have e3 : wc.cell? ⟨F.gS, 3, none⟩ = some (.int .i64 ((expS src (nx src c)).off : Int)) := by rw [hs8.blkS.cell]; rfl
      have S8 := Lib.hid hs8
      have B8 := Lib.hid hb8
      have H8 := Lib.hid (digits_any F src 10 (expS src (nx src c)) wc hs8 HWX.out.good (by omega) (by omega) (by omega))
      have W8 := Lib.hid (W6.out.trans HWX.out)
      clear hs8 hb8 e2 S6 B6 W6
      go_wp2_with (go_at_call 54; refine Hid.out ?_)
      refine Lib.hid ?_
      refine H8.out.mono ?_
      rintro e w9 ⟨z, rfl, hd9, hw9, hs9, hb9⟩
      have e4 : w9.cell? ⟨F.gS, 3, none⟩ = some (.int .i64 (z.off : Int)) := by rw [hs9.blkS.cell]; rfl
      have D9 := Lib.hid (ExpR.yes HQ.out hd9)
      have W9 := Lib.hid (W8.out.trans hw9.two)
      have hz1 := hw9.ec
      have hz2 := hw9.lo
      have hz3 := hs9.off
      have S9 := Lib.hid hs9
      have B9 := Lib.hid (B8.out.trans hb9)
      have HNF : Hid (OnWay2 src s (err z)) := Lib.hid (by
        have h1 := W5.out.ec
        have h2 := W5.out.lo
        have h3 := HWX.out.ec
        refine ⟨err_good hw9.good, W9.out.lo, ?_⟩
        show z.ec + 1 + 2 * s.off ≤ s.ec + 2 * z.off
        omega)
      clear hd9 hw9 hs9 hb9 e3 S8 B8 H8 W8
      by_cases hzz : (expS src (nx src c)).off = z.off
      · have t1 : (((expS src (nx src c)).off : Int) == (z.off : Int)) = true := by rw [hzz]; simp
        have HZ : Hid (expE (expS src (nx src c)) z = err z) := Lib.hid (by unfold expE; rw [if_pos hzz])
        have HEE := Lib.hid (fun (o' : Int) (msg : ByteArray) => err_any F src z o' msg w9 S9.out (by omega))
        have hnn : ((expS src (nx src c)).off == z.off) = true := by rw [hzz]; simp
        clear hzz
        go_wp2_with (go_at_call 47; refine Hid.out ?_)
        refine Lib.hid ?_
        refine (HEE.out _ _).mono ?_
        rintro e w10 ⟨rfl, hs10, hb10⟩
        have S10 := Lib.hid hs10
        have B10 := Lib.hid (B9.out.trans hb10)
        clear hs10 hb10
        go_wp2_with fail
        go_meet
        exact ⟨true, _, by simp, D9.out, by rw [HZ.out]; exact HNF.out, by rw [HZ.out]; exact S10.out, B10.out⟩
      · have t1 : (((expS src (nx src c)).off : Int) == (z.off : Int)) = false := by simp; omega
        have HZ : Hid (expE (expS src (nx src c)) z = z) := Lib.hid (by unfold expE; rw [if_neg hzz])
        have hnn : ((expS src (nx src c)).off == z.off) = false := by simpa using hzz
        clear hzz
        go_wp2_with fail
        go_meet
        exact ⟨true, _, by simp, D9.out, by rw [HZ.out]; exact W9.out, by rw [HZ.out]; exact S9.out, B9.out⟩
  case rest =>
  obtain ⟨q, z, rfl, hex, hwz, hsz, hbz⟩ := hcut
  obtain ⟨tok, htok⟩ : ∃ tok : Int, (if q = true then 6 else tk) = tok := ⟨_, rfl⟩
  rw [htok]
  have HTO : Hid (tok = if (p || q) = true then 6 else 5) := Lib.hid (by
    rw [← htok, ← HTK.out]
    cases p <;> cases q <;> rfl)
  clear htok
  have hzo := hsz.off
  have hjz : j ≤ z.off := by have := hwz.lo; omega
  obtain ⟨bb, oo, eo, hbB, hcc⟩ := hsz.srcAt.at_ (by omega)
  have f1 : wc.cell? ⟨F.gS, 1, none⟩ = some (.slice (some ⟨bb, oo, none⟩) src.length F.cap) := by rw [hsz.blkS.cell, ← eo]; rfl
  have f3 : wc.cell? ⟨F.gS, 3, none⟩ = some (.int .i64 (z.off : Int)) := by rw [hsz.blkS.cell]; rfl
  obtain ⟨k, hk⟩ : ∃ k, z.off = k := ⟨_, rfl⟩
  rw [hk] at f3 hjz hzo
  have FX : Hid (∀ v w', v = .returned (.tuple #[.int .i64 tok, .string ⟨(cut src j k).toArray⟩]) → SC F src z w' → Below F.B w w' → NmPost F src s w v w') := Lib.hid (fun v w' hv hs hb => ⟨_, z, ⟨a, c, p, q, by rw [HB.out]; exact D1.out, by rw [HB.out]; exact FR.out, hex, HTO.out⟩, hwz, by rw [hv, HJ.out, hk], hs, hb⟩)
  have SZ := Lib.hid hsz
  have BZ := Lib.hid hbz
  have hcv := fun n => run_cut src j k bb oo (F.cap - j) (wc.drewN n) (by omega) hzo hcc
  have hcv0 := run_cut src j k bb oo (F.cap - j) wc (by omega) hzo hcc
  have hsl := fun W => run_sl W bb oo src.length F.cap j k (by omega) (by omega) (by omega)
  have hslA := fun W => run_slA W bb oo src.length F.cap j k (by omega) (by omega) (by omega)
  have hne : ¬ (F.cap = j) := by omega
  have hj2 : j ≤ F.cap := by omega
  have hk2 : k ≤ F.cap := by omega
  clear eo hcc hk hex hwz hsz hbz hjj d2'
  go_wp2_with fail
  go_quiet (fail)
  go_wp2_with fail
  go_ret2
  exact FX.out _ _ rfl (SZ.out.drewN _) (below_drewN0 BZ.out _)
end Go.Proofs.YtamfekpcoppbgaaFmt
