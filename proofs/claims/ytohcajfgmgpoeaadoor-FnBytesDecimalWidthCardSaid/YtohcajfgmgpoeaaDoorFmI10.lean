/-
  fmtInteger in base 10, walked, for numbers without a sign. Conditions: width and precision at most 65536; the text stays within MaxStringLen.
-/
import Derived.Test.YtohcajfgmgpoeaaDoorFmIM
import Derived.Test.YtohcajfgmgpoeaaDoorFmP
import Derived.Deep.DeepCutAuto
import Derived.Deep.CutBlock
import Derived.Deep.QuietTactic
import Derived.BigQuiet
import Derived.IntWalk
namespace Go.Proofs.YtohcajfgmgpoeaaDoor
open Go.RowKit
set_option maxRecDepth 100000
set_option linter.unusedVariables false

theorem idx16 (W : World) : (Instr.index 9 (.string ⟨#[48, 49, 50, 51, 52, 53, 54, 55, 56, 57, 97, 98, 99, 100, 101, 102, 120]⟩) (.int .i64 16)).run Tryd.prog W = .ok (.int .u8 120) W := by kernel_rfl
theorem run_slf (W : World) (b o n cap k : Nat) (hk : k ≤ n) (hne : k < cap) : (Instr.slice 22 (.slice (some ⟨b, o, none⟩) n cap) (some (.int .i64 (k : Int))) none none).run Tryd.prog W = .ok (.slice (some ⟨b, o + k, none⟩) (n - k) (cap - k)) W := by
  rw [run_slice_l W 22 _ n cap (by rw [el_u8]; exact Tryd.underlying22) .i64 _ (by omega) (by omega), el_u8]
  have hs : (sizeOf 5).run Tryd.prog W = .ok 1 W := by kernel_rfl
  rw [hs]
  simp [Result.andThen, sliced, Addr.add]
  rw [if_neg (by omega)]
  split
  · simp [*]
  · rfl
theorem mku8 (k : Nat) (hk : k ≤ 281474976710656) (w : World) : (Instr.makeSlice 22 (.int .i64 (k : Int)) (.int .i64 (k : Int))).run Tryd.prog w = .ok (.slice (some ⟨w.heap.size, 0, none⟩) k k) (w.alloc (.cells (madeCells #[.int .u8 0] k) 5)) := by
  obtain ⟨i0, hi, hz0, hz1, hz2⟩ := info_parts u8_info
  have h := run_make (P := Tryd.prog) w 22 5 i0 _ Tryd.underlying22 hi hz0 .i64 .i64 k k (by omega) (Int.le_refl _) (by rw [hz2]; omega) (by omega)
  rw [h, hz1]
  simp [Value.cells]
/-- the scratch memory in the printer itself -/
theorem Scr.own {B g : Nat} {fl : Fl} {v : Value} {buf : List UInt8} {w : World} (h : PF B g fl v buf w) : Scr B g fl v buf g 17 68 w 68 [] := by
  refine ⟨h, Or.inl ⟨rfl, rfl, rfl⟩, fun k hk => ?_, (fun k hk => by cases hk), rfl⟩
  obtain ⟨cs, h1, h2⟩ := h
  rw [h1.blk.cell]
  exact h2.ib k hk
/-- scratch memory that was made -/
theorem Scr.made {B g k : Nat} {fl : Fl} {v : Value} {buf : List UInt8} {w : World} (h : PF B g fl v buf w) : Scr B g fl v buf w.heap.size 0 k (w.alloc (.cells (madeCells #[.int .u8 0] k) 5)) k [] := by
  have hb := Blk.new w 5 (madeCells #[.int .u8 0] k)
  obtain ⟨cs, h1, h2⟩ := h
  have hg := h1.blk.lt
  refine ⟨⟨cs, h1.alloc _, h2⟩, Or.inr ⟨by omega, h1.size, rfl, fun e => ?_, _, hb⟩, fun j hj => ⟨0, ?_⟩, (fun j hj => by cases hj), rfl⟩
  · have := own_lt8 h1.own _ e.symm
    omega
  · rw [hb.cell]
    simp [madeCells, hj, Nat.mod_one]
/-- where the digits go: at b from o on, n bytes -/
def Room (B g : Nat) (fl : Fl) (v : Value) (buf : List UInt8) (w : World) (b o n : Nat) (wx : World) : Prop :=
  Scr B g fl v buf b o n wx n [] ∧ Below B w wx ∧ 68 ≤ n ∧ ((fl.wp = true ∨ fl.pp = true) → 3 + fl.wid + fl.prec ≤ n) ∧ n ≤ 200000
set_option maxHeartbeats 8000000 in
theorem fmtI_any (B g : Nat) (fl : Fl) (v : Value) (buf : List UInt8) (u : Nat) (vb : Int) (w : World) (h : PF B g fl v buf w) (hw : fl.wid ≤ 65536) (hp : fl.prec ≤ 65536) (hu : u < 18446744073709551616) (hvb : vb ≠ 79) (hl : buf.length + 4000000 ≤ 2147483647) (hsp : fl.sp = false) (hsh : fl.sh = false) :
    Calls Tryd.prog 20 #[.pointer (some ⟨g, 2, none⟩), .int .u64 (u : Int), .int .i64 10, .bool false, .int .i32 vb, .string ⟨#[48, 49, 50, 51, 52, 53, 54, 55, 56, 57, 97, 98, 99, 100, 101, 102, 120]⟩] w (PadPost B g fl (buf ++ intT 10 fl u) w) := by
  obtain ⟨_, d2, d3, d4, _, d6, d7, d8, d9, d15, d16, _⟩ := h.cells
  have tvb : (vb == 79) = false := by simpa using hvb
  rw [hsp] at d8
  rw [hsh] at d7
  have hnothing : True := trivial
  have HF := Lib.hid (And.intro hsp hsh)
  clear hsp hsh
  have H := Lib.hid h
  clear h hvb
  go_enter Tryd.func20, Tryd.ntmps20
  go_upto_region 4 with fail
  go_cut [44] (fun s44 wx => ∃ q : Bool, s44 = .bool q ∧ (q = true ↔ (fl.wp = true ∨ fl.pp = true)) ∧ w = wx)
  case first => as_aux_lemma =>
    have hspl : (fl.wp = false ∧ fl.pp = false) ∨ (fl.wp = true) ∨ (fl.wp = false ∧ fl.pp = true) := by cases fl.wp <;> cases fl.pp <;> simp
    rcases hspl with ⟨hq1, hq2⟩ | hq1 | ⟨hq1, hq2⟩
    · have HQ : Hid (false = true ↔ (fl.wp = true ∨ fl.pp = true)) := Lib.hid (by rw [hq1, hq2]; simp)
      rw [hq1] at d3
      rw [hq2] at d4
      clear hq1 hq2
      go_wp2_with fail
      go_meet
      exact ⟨false, rfl, HQ.out, rfl⟩
    · have HQ : Hid (true = true ↔ (fl.wp = true ∨ fl.pp = true)) := Lib.hid (by rw [hq1]; simp)
      rw [hq1] at d3
      clear hq1
      go_wp2_with fail
      go_meet
      exact ⟨true, rfl, by have := HQ.out; simpa using this, rfl⟩
    · have HQ : Hid (true = true ↔ (fl.wp = true ∨ fl.pp = true)) := Lib.hid (by rw [hq1, hq2]; simp)
      rw [hq1] at d3
      rw [hq2] at d4
      clear hq1 hq2
      go_wp2_with fail
      go_meet
      exact ⟨true, rfl, by have := HQ.out; simpa using this, rfl⟩
  case rest =>
  obtain ⟨q, rfl, hqq, rfl⟩ := hcut
  have HQQ := Lib.hid hqq
  clear hqq
  go_upto_if 44 with fail
  go_cut [13] (fun s13 wx => ∃ b o n : Nat, s13 = .slice (some ⟨b, o, none⟩) n n ∧ Room B g fl v buf w b o n wx)
  case first => as_aux_lemma =>
    cases q
    · have HRM : Hid (Room B g fl v buf w g 17 68 w) := Lib.hid ⟨Scr.own H.out, Below.refl _ _, by omega, (fun h => by have := HQQ.out.2 h; cases this), by omega⟩
      go_wp2_with fail
      go_meet
      exact ⟨g, 17, 68, rfl, HRM.out⟩
    · obtain ⟨nn, hnn⟩ : ∃ nn : Nat, 3 + fl.wid + fl.prec = nn := ⟨_, rfl⟩
      have i1 : (3 : Int) + (fl.wid : Int) + (fl.prec : Int) = (nn : Int) := by omega
      have i2 : IntKind.i64.wrap ((3 : Int) + (fl.wid : Int)) = (3 : Int) + (fl.wid : Int) := IntWalk.i64_in _ (by omega)
      have i3 : IntKind.i64.wrap (nn : Int) = (nn : Int) := IntWalk.i64_in _ (by omega)
      have HNN := Lib.hid hnn
      have hnb : nn ≤ 131075 := by omega
      have HRM : ∀ nq, nn ≤ 68 → Hid (Room B g fl v buf w g 17 68 (w.drewN nq)) := fun nq hle => Lib.hid ⟨(Scr.own H.out).drewN nq, below_dn (Below.refl _ _) _, by omega, (fun _ => by omega), by omega⟩
      have HRN : ∀ nq, ¬ nn ≤ 68 → Hid (Room B g fl v buf w (w.drewN nq).heap.size 0 nn ((w.drewN nq).alloc (.cells (madeCells #[.int .u8 0] nn) 5))) := fun nq hle => Lib.hid ⟨Scr.made (H.out.drewN nq), (below_dn (Below.refl _ _) _).alloc (by obtain ⟨cs, h1, _⟩ := H.out; exact h1.size) _, by omega, (fun _ => by omega), by omega⟩
      have hmk := fun W => mku8 nn (by omega) W
      clear hnn
      by_cases hle : nn ≤ 68
      · have t1 : decide ((nn : Int) > 68) = false := by simp; omega
        go_wp2_with fail
        go_quiet (fail)
        have HRX := HRM nq hle
        clear HRM HRN i1 i2 i3 hmk
        go_wp2_with fail
        go_meet
        exact ⟨g, 17, 68, rfl, HRX.out⟩
      · have t1 : decide ((nn : Int) > 68) = true := by simp; omega
        go_wp2_with fail
        go_quiet (fail)
        have HRX := HRN nq hle
        clear HRM HRN i1 i2 i3
        go_wp2_with fail
        go_meet
        exact ⟨_, 0, nn, rfl, HRX.out⟩
  case rest =>
    obtain ⟨b, o, n, rfl, hs, hbl, hn68, hnw, hnu⟩ := hcut
    obtain ⟨wa, rfl⟩ : ∃ wa : World, wa = wc := ⟨_, rfl⟩
    obtain ⟨_, c2, c3, c4, _, c6, c7, c8, c9, c15, c16, _⟩ := hs.pf.cells
    have f9 := hs.pf.free 9
    have hpn : precI fl + 3 ≤ (n : Int) := by
      by_cases hq : fl.wp = true ∨ fl.pp = true
      · have := hnw hq
        have := precI_le fl
        omega
      · rw [precI_0 fl (by cases h : fl.pp <;> simp_all) (by cases h : fl.wp <;> simp_all)]
        omega
    have HS := Lib.hid hs
    have HBL := Lib.hid hbl
    have HU := Lib.hid hu
    rw [HF.out.1] at c8
    rw [HF.out.2] at c7
    clear hs hbl hnw d2 d3 d4 d6 d7 d8 d9 d15 d16 HQQ
    by_cases hspec : fl.pp = true ∧ fl.prec = 0 ∧ u = 0
    · as_aux_lemma =>
      obtain ⟨q1, q2, q3⟩ := hspec
      have e : intT 10 fl u = rep fl.wid 32 := if_pos ⟨q1, q2, q3⟩
      have HE := Lib.hid e
      have t5 : ((u : Int) == 0) = true := by rw [q3]; rfl
      have t6 : ((fl.prec : Int) == 0) = true := by rw [q2]; rfl
      rw [q1] at c4
      have hq := HS.out.pf.flag (.ze fl false)
      have HP := Lib.hid (wpad_any B g { fl with ze := false } v buf (fl.wid : Int) _ hq rfl (by omega) (by omega))
      rw [Int.toNat_natCast] at HP
      have B3 := Lib.hid (HBL.out.trans (HS.out.pf.put_below 9 (.bool false)))
      clear q1 q2 q3 e hq
      go_wp2_with fail
      refine HP.out.mono ?_
      rintro e w4 ⟨v4, rfl, h4, h5, _⟩
      obtain ⟨_, _, _, _, _, _, _, _, q9, _, _, _⟩ := h4.cells
      have q9' : w4.cell? ⟨g, 9, none⟩ = some (.bool false) := q9
      have g9 := h4.free 9
      have h6 := h4.flag (.ze _ fl.ze)
      rw [Fl.back] at h6
      have H6 : Hid (PF B g fl v4 (buf ++ intT 10 fl u) (w4.setCell ⟨g, 9, none⟩ (.bool fl.ze))) := Lib.hid (by rw [HE.out]; exact h6)
      have B6 := Lib.hid ((B3.out.trans h5).trans (h4.put_below 9 (.bool fl.ze)))
      clear h4 h5 h6 q9 HP
      go_wp2_with fail
      go_end0
      exact ⟨v4, rfl, H6.out, B6.out⟩
    have HE : Hid (intT 10 fl u = padT fl.wp fl.wid fl.mi (signI fl (sharpI 10 fl (zfill (precI fl) (digI 10 u))))) := Lib.hid (by unfold intT; rw [if_neg hspec])
    go_upto_if 65 with fail
    go_cut [15] (fun s15 wx => s15 = .int .i64 (precI fl) ∧ wa = wx)
    case first => as_aux_lemma =>
      rcases Bool.eq_false_or_eq_true fl.pp with hpp | hpp
      · have HPV : Hid (precI fl = (fl.prec : Int)) := Lib.hid (by unfold precI; rw [if_pos hpp])
        rw [hpp]
        by_cases hp0 : fl.prec = 0
        · have hu0 : u ≠ 0 := fun h0 => hspec ⟨hpp, hp0, h0⟩
          have t5 : ((u : Int) == 0) = false := by simp; omega
          have t6 : ((fl.prec : Int) == 0) = true := by simp; omega
          clear hpp hp0 hu0 hspec
          go_wp2_with fail
          go_meet
          exact ⟨by rw [HPV.out], rfl⟩
        · have t6 : ((fl.prec : Int) == 0) = false := by simp; omega
          clear hpp hp0 hspec
          go_wp2_with fail
          go_meet
          exact ⟨by rw [HPV.out], rfl⟩
      · rw [hpp]
        rcases Bool.eq_false_or_eq_true fl.ze with hz | hz
        · rcases Bool.eq_false_or_eq_true fl.wp with hq | hq
          · rcases Bool.eq_false_or_eq_true fl.pl with hl | hl
            · have HPV : Hid (precI fl = (fl.wid : Int) - 1) := Lib.hid (by unfold precI; simp [hpp, hz, hq, hl])
              rw [hz] at c9
              rw [hq] at c3
              rw [hl] at c6
              clear hz hq hl hpp hspec
              go_wp2_with fail
              go_meet
              exact ⟨by rw [HPV.out], rfl⟩
            · have HPV : Hid (precI fl = (fl.wid : Int)) := Lib.hid (by unfold precI; simp [hpp, hz, hq, hl, HF.out.1])
              rw [hz] at c9
              rw [hq] at c3
              rw [hl] at c6
              clear hz hq hl hpp hspec
              go_wp2_with fail
              go_meet
              exact ⟨by rw [HPV.out], rfl⟩
          · have HPV : Hid (precI fl = 0) := Lib.hid (by unfold precI; simp [hpp, hz, hq])
            rw [hz] at c9
            rw [hq] at c3
            clear hz hq hpp hspec
            go_wp2_with fail
            go_meet
            exact ⟨by rw [HPV.out], rfl⟩
        · have HPV : Hid (precI fl = 0) := Lib.hid (by unfold precI; simp [hpp, hz])
          rw [hz] at c9
          clear hz hpp hspec
          go_wp2_with fail
          go_meet
          exact ⟨by rw [HPV.out], rfl⟩
    case rest =>
    obtain ⟨rfl, rfl⟩ := hcut
    clear c3 c9 f9
    have hDL := digI_len 10 u
    have hAsc := body_ascii 10 u (precI fl) fl (by decide) HU.out
    have HASC := Lib.hid hAsc
    clear hAsc
    obtain ⟨p, hp⟩ : ∃ p, precI fl = p := ⟨_, rfl⟩
    rw [hp] at hpn HE HASC ⊢
    clear hp
    go_wp2_with fail
    go_loopw [1, 17] (fun s1 s17 wr => ∃ (u' k i : Nat) (l : List UInt8), s1 = .int .u64 (u' : Int) ∧ s17 = .int .i64 (i : Int) ∧ Scr B g fl v buf b o n wr i l ∧ Below B w wr ∧ u' < 10 ^ (k + 1) ∧ dgs 10 k u' l = digI 10 u ∧ l.length + k = 19 ∧ u' < 18446744073709551616) (fun s1 _ _ => (intOf s1).toNat)
    case atStart => exact ⟨u, 19, n, [], rfl, rfl, HS.out, HBL.out, Nat.lt_of_lt_of_le HU.out (by decide), rfl, rfl, HU.out⟩
    case round =>
      obtain ⟨u', k, i, l, rfl, rfl, hsr, hbr, hu', hd, hlk, hu64⟩ := hrel
      have hln := hsr.len
      obtain ⟨i', hi'⟩ : ∃ i', i = i' + 1 := ⟨i - 1, by omega⟩
      have hii : (i : Int) - 1 = (i' : Int) := by omega
      rw [hi'] at hsr
      obtain ⟨z, hz⟩ := hsr.all i' (by omega)
      have f1 := hsr.free (o + i')
      clear c2 c4 c6 c7 c8 c15 c16
      by_cases hge : 10 ≤ u'
      · as_aux_lemma =>
        obtain ⟨k', rfl⟩ : ∃ k', k = k' + 1 := ⟨k - 1, by
          rcases k with _ | k
          · simp at hu'
            omega
          · omega⟩
        obtain ⟨d, hd'⟩ : ∃ d, u' % 10 = d := ⟨_, rfl⟩
        have hdl : d < 10 := by omega
        have hgei : (10 : Int) ≤ (u' : Int) := by omega
        have hdl17 : (d : Int) < 17 := by omega
        have HV : Hid (IntKind.u64.wrap (IntKind.u64.wrap (48 + (u' : Int)) - (u' : Int) / 10 * 10) % 256 = ((hx d).toNat : Int)) := Lib.hid (by rw [← hd']; exact val10 u' hu64)
        have hput := hsr.put (hx d)
        rw [dgs, if_pos hge, hd'] at hd
        have HD := Lib.hid hd
        have HUK : Hid (u' / 10 < 10 ^ (k' + 1)) := Lib.hid (Nat.div_lt_of_lt_mul (by rw [Nat.mul_comm, ← Nat.pow_succ]; exact hu'))
        have HP := Lib.hid hput
        have HB2 := Lib.hid (hbr.trans (hsr.put_below (o + i') (.int .u8 ((hx d).toNat : Int))))
        have hle : i' ≤ n := by omega
        clear hput hsr hbr hd hu' hd' HS HBL
        go_wp2_with fail
        go_roundw
        case rel => exact ⟨u' / 10, k', i', hx d :: l, by first | rfl | (congr 1; omega), rfl, by first | exact HP.out | (have := HP.out; rw [← get_hx d (by omega)] at this; exact this) | (have := HP.out; rw [← HV.out] at this; exact this), by first | exact HB2.out | (have := HB2.out; rw [← get_hx d (by omega)] at this; exact this) | (have := HB2.out; rw [← HV.out] at this; exact this), HUK.out, HD.out, by simp only [List.length_cons]; omega, by omega⟩
        case measure => simp [intOf]; omega
      · as_aux_lemma =>
        have hlti : (u' : Int) < 10 := by omega
        have hd2 : hx u' :: l = digI 10 u := by
          rw [← hd]
          rcases k with _ | k
          · rfl
          · rw [dgs, if_neg hge]
        have hix := fun W => idx_hx u' (by omega) W
        have hput := hsr.put (hx u')
        rw [hd2] at hput
        have HP := Lib.hid hput
        have HB2 := Lib.hid (hbr.trans (hsr.put_below (o + i') (.int .u8 ((hx u').toNat : Int))))
        have hul : u' < 16 := by omega
        have hul17 : (u' : Int) < 17 := by omega
        obtain ⟨D, hD⟩ : ∃ D, digI 10 u = D := ⟨_, rfl⟩
        rw [hD] at HP hDL HE HASC
        obtain ⟨wo, rfl⟩ : ∃ wo : World, wo = wr := ⟨_, rfl⟩
        clear hput hsr hbr hd hd2 HS HBL hD hu'
        go_wp2_with fail
        go_loopw [17] (fun s17 wr => ∃ (i : Nat) (l : List UInt8), s17 = .int .i64 (i : Int) ∧ Scr B g fl v buf b o n wr i l ∧ Below B w wr ∧ zfill p l = zfill p D ∧ ((l.length : Int) ≤ 20 ∨ (l.length : Int) ≤ p)) (fun s17 _ => (intOf s17).toNat)
        case atStart => exact ⟨i', D, rfl, by first | exact HP.out | (have := HP.out; rw [← get_hx u' hul] at this; exact this), by first | exact HB2.out | (have := HB2.out; rw [← get_hx u' hul] at this; exact this), rfl, Or.inl (by omega)⟩
        case round =>
          clear HP HB2 hix hz f1 hii hlti hul17
          obtain ⟨i, l, rfl, hsr, hbr, hd, hlk⟩ := hrel
          have hln := hsr.len
          have hni : (n : Int) - (i : Int) = (l.length : Int) := by omega
          have hi0 : (0 : Int) < (i : Int) := by omega
          obtain ⟨i', hi'⟩ : ∃ i', i = i' + 1 := ⟨i - 1, by omega⟩
          have hii : (i : Int) - 1 = (i' : Int) := by omega
          by_cases hlt : (l.length : Int) < p
          · as_aux_lemma =>
            rw [hi'] at hsr
            obtain ⟨z, hz⟩ := hsr.all i' (by omega)
            have f1 := hsr.free (o + i')
            have hput := hsr.put 48
            rw [show (((48 : UInt8).toNat : Nat) : Int) = 48 from rfl] at hput
            have HP := Lib.hid hput
            have HB2 := Lib.hid (hbr.trans (hsr.put_below (o + i') (.int .u8 48)))
            have HD : Hid (zfill p (48 :: l) = zfill p D) := Lib.hid (by rw [zfill_step p l hlt]; exact hd)
            have hlk2 : ((48 :: l : List UInt8).length : Int) ≤ p := by simp only [List.length_cons]; omega
            clear hput hsr hbr hd
            go_wp2_with fail
            go_roundw
            case rel => exact ⟨i', 48 :: l, rfl, HP.out, HB2.out, HD.out, Or.inr hlk2⟩
            case measure => simp [intOf]; omega
          · as_aux_lemma =>
            have hlt' : p ≤ (l.length : Int) := by omega
            have hfin : l = zfill p D := by rw [← hd, zfill_done p l hlt']
            have hin : 3 ≤ i ∨ 48 ≤ i := by omega
            obtain ⟨_, c2, c3, c4, c5, c6, c7, c8, c9, c15, c16, _⟩ := hsr.pf.cells
            rw [HF.out.1] at c8
            rw [HF.out.2] at c7
            obtain ⟨wo2, rfl⟩ : ∃ wo2 : World, wo2 = wr := ⟨_, rfl⟩
            have HSR := Lib.hid hsr
            have HBR := Lib.hid hbr
            have HFIN := Lib.hid hfin
            have hll : l.length ≤ 200000 := by omega
            clear hsr hbr hfin hd hlt hi' hii
            go_upto_if 285 with fail
            go_cut [17] (fun s17 wx => ∃ (i : Nat) (T : List UInt8), s17 = .int .i64 (i : Int) ∧ Scr B g fl v buf b o n wx i T ∧ Below B w wx ∧ T = signI fl (sharpI 10 fl l) ∧ 1 ≤ T.length ∧ T.length ≤ 200003)
            case first => as_aux_lemma =>
              have hl1 : 1 ≤ l.length := by
                rw [HFIN.out, zfill_len]
                omega
              rcases Bool.eq_false_or_eq_true fl.pl with hpl | hpl
              · obtain ⟨j, hj⟩ : ∃ j, i = j + 1 := ⟨i - 1, by omega⟩
                have hj1 : (i : Int) - 1 = (j : Int) := by omega
                have hs1 := HSR.out
                rw [hj] at hs1
                obtain ⟨z1, hz1⟩ := hs1.all j (by have := hs1.len; omega)
                have g1 := hs1.free (o + j)
                have hs3 := hs1.put 43
                rw [show (((43 : UInt8).toNat : Nat) : Int) = 43 from rfl] at hs3
                have hb3 := HBR.out.trans (hs1.put_below (o + j) (.int .u8 43))
                have H3 := Lib.hid hs3
                have B3 := Lib.hid hb3
                have HT : Hid (43 :: l = signI fl (sharpI 10 fl l)) := Lib.hid (by unfold signI sharpI; rw [if_pos hpl, if_neg (by rintro ⟨_, h⟩; cases h)])
                rw [hpl]
                have hjn : j ≤ n := by have := HSR.out.len; omega
                clear hs1 hs3 hb3 hpl hj
                go_wp2_with fail
                go_meet
                exact ⟨j, 43 :: l, rfl, H3.out, B3.out, HT.out, by simp only [List.length_cons]; omega, by simp only [List.length_cons]; omega⟩
              · have HT : Hid (l = signI fl (sharpI 10 fl l)) := Lib.hid (by unfold signI sharpI; rw [if_neg (by rw [hpl]; decide), if_neg (by rw [HF.out.1]; decide), if_neg (by rintro ⟨_, h⟩; cases h)])
                rw [hpl]
                clear hpl
                go_wp2_with fail
                go_meet
                exact ⟨i, l, rfl, HSR.out, HBR.out, HT.out, hl1, by omega⟩
            case rest => as_aux_lemma =>
              obtain ⟨i3, T, rfl, hs3, hb3, hT, hT1, hT2⟩ := hcut
              rw [HFIN.out] at hT
              have HT := Lib.hid hT
              clear hT c2 c3 c4 c5 c6 c7 c8 c9 c15 c16
              obtain ⟨w3, rfl⟩ : ∃ w3 : World, w3 = wc := ⟨_, rfl⟩
              obtain ⟨_, e2, e3, e4, e5, e6, e7, e8, e9, e15, e16, _⟩ := hs3.pf.cells
              rw [HF.out.1] at e8; rw [HF.out.2] at e7
              have f9 := hs3.pf.free 9
              have hln3 := hs3.len
              have hflag := hs3.flag (.ze fl false)
              have hll3 : n - i3 = T.length := by omega
              have hslf := fun W => run_slf W b o n n i3 (by omega) (by omega)
              rw [hll3] at hslf
              have HPAD := Lib.hid (pad_any B g { fl with ze := false } v buf (some ⟨b, o + i3, none⟩) T.length T _ hflag.pf rfl hflag.psrc hw (by rw [HT.out]; exact HASC.out) (by omega) (by omega))
              have B3 := Lib.hid (hb3.trans (hs3.pf.put_below 9 (.bool false)))
              have hin3 : i3 ≤ n := by omega
              clear hs3 hb3 hflag hll3
              go_wp2_with fail
              refine HPAD.out.mono ?_
              rintro e w4 ⟨v4, rfl, h4, h5⟩
              obtain ⟨_, _, _, _, _, _, _, _, q9, _, _, _⟩ := h4.cells
              have q9' : w4.cell? ⟨g, 9, none⟩ = some (.bool false) := q9
              have g9 := h4.free 9
              have h6 := h4.flag (.ze _ fl.ze)
              rw [Fl.back] at h6
              have H6 : Hid (PF B g fl v4 (buf ++ intT 10 fl u) (w4.setCell ⟨g, 9, none⟩ (.bool fl.ze))) := Lib.hid (by rw [HE.out, ← HT.out]; exact h6)
              have B6 := Lib.hid ((B3.out.trans h5).trans (h4.put_below 9 (.bool fl.ze)))
              clear h4 h5 h6 q9 HPAD
              go_wp2_with fail
              go_end0
              exact ⟨v4, rfl, H6.out, B6.out⟩
end Go.Proofs.YtohcajfgmgpoeaaDoor
