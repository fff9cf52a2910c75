/-
  FnFmt0x64RoundTrip, walked; zzParseHex reads a hexadecimal numeral back. Conditions: MaxStringLen reads as laid.
-/
import Derived.Test.YtfiinkdobcoihaaDoorLaw91
namespace Go.Proofs.YtfiinkdobcoihaaDoor
open Go.RowKit
set_option maxRecDepth 100000
set_option linter.unusedVariables false

theorem dg_step (f u : Nat) (h : 16 ≤ u) : dgs 16 (f + 1) u [] = dgs 16 f (u / 16) [] ++ [hx (u % 16)] := by
  show (if 16 ≤ u then dgs 16 f (u / 16) (hx (u % 16) :: []) else hx u :: []) = _
  rw [if_pos h, dgs_acc]
theorem dg_last (f u : Nat) (h : ¬ 16 ≤ u) : dgs 16 f u [] = [hx u] := by
  rcases f with _ | f
  · rfl
  · show (if 16 ≤ u then dgs 16 f (u / 16) (hx (u % 16) :: []) else hx u :: []) = _
    rw [if_neg h]
/-- each digit's place; no leading zero; all of it -/
theorem dg_at : ∀ (f u : Nat), u < 16 ^ (f + 1) → (∀ i, i < (dgs 16 f u []).length → (dgs 16 f u [])[i]? = some (hx (u / 16 ^ ((dgs 16 f u []).length - 1 - i) % 16))) ∧ u < 16 ^ (dgs 16 f u []).length ∧ (1 < (dgs 16 f u []).length → 16 ^ ((dgs 16 f u []).length - 1) ≤ u)
  | f, u, hu => by
    by_cases h : 16 ≤ u
    · rcases f with _ | f
      · simp at hu
        omega
      · obtain ⟨i1, i2, i3⟩ := dg_at f (u / 16) (by rw [Nat.pow_succ] at hu; exact Nat.div_lt_of_lt_mul (by rw [Nat.mul_comm]; exact hu))
        rw [dg_step f u h]
        generalize dgs 16 f (u / 16) [] = E at *
        have hl : (E ++ [hx (u % 16)]).length = E.length + 1 := by simp
        rw [hl]
        refine ⟨fun i hi => ?_, ?_, fun _ => ?_⟩
        · by_cases hE : i < E.length
          · rw [List.getElem?_append_left hE, i1 i hE]
            rw [show E.length + 1 - 1 - i = (E.length - 1 - i) + 1 by omega, Nat.pow_succ', Nat.div_div_eq_div_mul]
          · obtain rfl : i = E.length := by omega
            rw [List.getElem?_append_right (Nat.le_refl _)]
            simp
        · rw [Nat.pow_succ]
          omega
        · rw [show E.length + 1 - 1 = E.length by omega]
          rcases Nat.lt_or_ge 1 E.length with h1 | h1
          · have := i3 h1
            obtain ⟨m, hm⟩ : ∃ m, E.length = m + 1 := ⟨E.length - 1, by omega⟩
            have e : 16 ^ E.length = 16 ^ (E.length - 1) * 16 := by rw [hm, Nat.add_sub_cancel, Nat.pow_succ]
            omega
          · have : 16 ^ E.length ≤ 16 ^ 1 := Nat.pow_le_pow_right (by decide) h1
            omega
    · rw [dg_last f u h]
      refine ⟨fun i hi => ?_, ?_, fun h1 => ?_⟩
      · simp at hi
        subst hi
        simp
        rw [Nat.mod_eq_of_lt (by omega)]
      · simp
        omega
      · simp at h1
theorem or_nib (x d : Nat) (hd : d < 16) (hx' : x < 1152921504606846976) : bits BinOp.or IntKind.u64 ((x : Int) * 16) (d : Int) = ((16 * x + d : Nat) : Int) := by
  have e1 : (BitVec.ofInt 64 ((x : Int) * 16)).toNat = x * 16 := by rw [BitVec.toNat_ofInt]; omega
  have e2 : (BitVec.ofInt 64 (d : Int)).toNat = d := by rw [BitVec.toNat_ofInt]; omega
  have e3 : x * 16 ||| d = 16 * x + d := by
    have := Nat.shiftLeft_add_eq_or_of_lt (i := 4) (b := d) (by omega) x
    rw [Nat.shiftLeft_eq, show (2 : Nat) ^ 4 = 16 from rfl] at this
    omega
  show IntKind.u64.wrap ((BitVec.ofInt 64 ((x : Int) * 16) ||| BitVec.ofInt 64 (d : Int)).toNat : Int) = _
  rw [BitVec.toNat_or, e1, e2, e3, IntKind.wrap_u64]
  omega
theorem idx_str (l : List UInt8) (i : Nat) (c : UInt8) (hc : l[i]? = some c) (W : World) : (Instr.index 9 (.string ⟨l.toArray⟩) (.int .i64 (i : Int))).run Tryd.prog W = .ok (.int .u8 (c.toNat : Int)) W := by
  have hi : i < l.length := by
    rcases Nat.lt_or_ge i l.length with h | h
    · exact h
    · rw [List.getElem?_eq_none h] at hc
      cases hc
  rw [run_index_string W 9 ⟨l.toArray⟩ .i64 (i : Int) Tryd.underlying9]
  have hs : (⟨l.toArray⟩ : ByteArray).size = l.length := by simp [ByteArray.size]
  rw [dif_pos ⟨by omega, by rw [hs]; omega⟩]
  have : (⟨l.toArray⟩ : ByteArray)[(i : Int).toNat]'(by rw [hs]; simpa using hi) = c := by
    rw [List.getElem?_eq_getElem hi] at hc
    injection hc with hc
  rw [this]
set_option maxHeartbeats 4000000 in
theorem parse_any (u : Nat) (hu : u < 18446744073709551616) (w : World) :
    Calls Tryd.prog 9 #[.string ⟨(digI 16 u).toArray⟩] w fun e w' => e = .returned (.tuple #[.int .u64 (u : Int), .bool true]) ∧ w = w' := by
  obtain ⟨k1, k2, k3⟩ := dg_at 15 u hu
  have hlen : 1 ≤ (digI 16 u).length ∧ (digI 16 u).length ≤ 16 := by
    have := dgs_len 16 15 u []
    simp only [List.length_nil] at this
    show 1 ≤ (dgs 16 15 u []).length ∧ (dgs 16 15 u []).length ≤ 16
    omega
  have hd : digI 16 u = dgs 16 15 u [] := rfl
  rw [← hd] at k1 k2 k3
  have K1 := Lib.hid k1
  have K2 := Lib.hid k2
  obtain ⟨hl1, hl2⟩ := hlen
  clear k1 k2 k3 hd
  generalize digI 16 u = D at *
  have t1 : ((D.length : Int) == 0) = false := by simpa using (show ¬ (D.length : Int) = 0 by omega)
  have t2 : decide ((D.length : Int) > 16) = false := by simp; omega
  go_enter Tryd.func9, Tryd.ntmps9
  go_wp2_with fail
  go_loop [4, 5] (fun v4 v5 => ∃ i : Nat, i ≤ D.length ∧ v5 = .int .i64 (i : Int) ∧ v4 = .int .u64 ((u / 16 ^ (D.length - i) : Nat) : Int)) (fun _ v5 => D.length - (intOf v5).toNat)
  case atStart => exact ⟨0, Nat.zero_le _, rfl, by rw [Nat.sub_zero, Nat.div_eq_of_lt K2.out]; rfl⟩
  case round =>
    obtain ⟨i, hi, rfl, rfl⟩ := hrel
    by_cases hlt : i < D.length
    rotate_left
    · obtain rfl : i = D.length := by omega
      rw [Nat.sub_self, Nat.pow_zero, Nat.div_one]
      go_wp2_with fail
      go_ret2
      exact ⟨rfl, rfl⟩
    obtain ⟨r, hr⟩ : ∃ r, D.length - i = r + 1 := ⟨D.length - i - 1, by omega⟩
    have hc := K1.out i hlt
    rw [show D.length - 1 - i = r by omega] at hc
    rw [hr]
    obtain ⟨x, hx'⟩ : ∃ x, u / 16 ^ (r + 1) = x := ⟨_, rfl⟩
    obtain ⟨q, hq⟩ : ∃ q, u / 16 ^ r = q := ⟨_, rfl⟩
    obtain ⟨d, hd⟩ : ∃ d, q % 16 = d := ⟨_, rfl⟩
    have hd16 : d < 16 := by omega
    have e2 : q / 16 = x := by rw [← hq, ← hx', Nat.pow_succ, Nat.div_div_eq_div_mul]
    have hql : q < 18446744073709551616 := by rw [← hq]; exact Nat.lt_of_le_of_lt (Nat.div_le_self _ _) hu
    have hqx : 16 * x + d = q := by omega
    have hxl : x < 1152921504606846976 := by omega
    rw [hq, hd] at hc
    have hor := or_nib x d hd16 hxl
    rw [hqx] at hor
    have hi1 : D.length - (i + 1) = r := by omega
    have HNX : Hid (u / 16 ^ (D.length - (i + 1)) = q) := Lib.hid (by rw [hi1, hq])
    have hix := fun W => idx_str D i (hx d) hc W
    have hv := hx_val d hd16
    rw [hx']
    obtain ⟨c, hcc⟩ : ∃ c, (hx d).toNat = c := ⟨_, rfl⟩
    rw [hcc] at hix hv
    clear hc hd e2 hcc hi1 hr hq hx' hqx
    by_cases h10 : d < 10
    · rw [if_pos h10] at hv
      have hs : (c : Int) - 48 = (d : Int) := by omega
      have hc1 : (48 : Int) ≤ (c : Int) := by omega
      have hc2 : (c : Int) ≤ 57 := by omega
      clear hv
      go_wp2_with fail
      go_round
      case rel => exact ⟨i + 1, by omega, by go_num, by rw [HNX.out]⟩
      case measure => simp [intOf]; omega
    · rw [if_neg h10] at hv
      have hs : (c : Int) - 97 + 10 = (d : Int) := by omega
      have hc1 : (97 : Int) ≤ (c : Int) := by omega
      have hc2 : (c : Int) ≤ 102 := by omega
      clear hv
      go_wp2_with fail
      go_round
      case rel => exact ⟨i + 1, by omega, by go_num, by rw [HNX.out]⟩
      case measure => simp [intOf]; omega
theorem int16_bare (u : Nat) (lead : Bool) : intT 16 ⟨false, false, false, false, lead, false, false, 0, 0⟩ u = if lead = true then 48 :: 120 :: digI 16 u else digI 16 u := by
  rw [int16_eq]
  have hz : zfill (if false = true ∧ false = true then ((0 : Nat) : Int) else 0) (digI 16 u) = digI 16 u := by
    rw [if_neg (by simp)]
    exact zfill0 _
  rw [hz]
  exact pad_id _ _ _ _ (Or.inl rfl)
set_option maxHeartbeats 8000000 in
theorem law_round (u : Nat) (shb : Bool) (w : World) (hu : u < 18446744073709551616) (hm : MaxS w) (hg : 0 < w.heap.size) :
    Calls Tryd.prog 3 #[.int .u64 (u : Int), .bool shb] w fun e w' => e = .returned (.bool true) ∧ Below w.heap.size w w' := by
  have HM := Lib.hid hm
  clear hm
  have HN := Lib.hid (newF_any w HM.out hg)
  have HP := Lib.hid (fun W => parse_any u hu W)
  have hf := int16_bare u false
  have ht := int16_bare u true
  rw [if_neg (by decide)] at hf
  rw [if_pos rfl] at ht
  have HF := Lib.hid hf
  have HT := Lib.hid ht
  obtain ⟨k1, k2, k3⟩ := dg_at 15 u hu
  have hd : digI 16 u = dgs 16 15 u [] := rfl
  rw [← hd] at k1 k2 k3
  have HDL := digI_len 16 u
  have HDG : Hid (∃ c : Nat, (digI 16 u)[0]? = some (UInt8.ofNat c) ∧ c < 256 ∧ (1 < (digI 16 u).length → c ≠ 48)) := Lib.hid (by
    have h0 := k1 0 (by omega)
    generalize hdd : u / 16 ^ ((digI 16 u).length - 1 - 0) % 16 = d at h0
    have hd16 : d < 16 := by omega
    refine ⟨(hx d).toNat, by rw [h0, UInt8.ofNat_toNat], UInt8.toNat_lt _, fun h1 h48 => ?_⟩
    rw [hx_val d hd16] at h48
    have h3 := k3 h1
    obtain ⟨m, hm⟩ : ∃ m, (digI 16 u).length = m + 1 := ⟨(digI 16 u).length - 1, by omega⟩
    rw [hm] at hdd h3 k2
    rw [show m + 1 - 1 - 0 = m by omega] at hdd
    rw [Nat.add_sub_cancel] at h3
    rw [Nat.pow_succ] at k2
    have h4 : 1 ≤ u / 16 ^ m := (Nat.le_div_iff_mul_le (Nat.pow_pos (by decide))).2 (by omega)
    have h5 : u / 16 ^ m < 16 := Nat.div_lt_of_lt_mul (by omega)
    have h6 : d = u / 16 ^ m := by rw [← hdd, Nat.mod_eq_of_lt h5]
    split at h48 <;> omega)
  clear hf ht k1 k2 k3 hd
  go_enter Tryd.func3, Tryd.ntmps3
  go_wp2_with fail
  refine HN.out.mono ?_
  rintro e w1 ⟨rfl, p1, b1⟩
  have P1 := Lib.hid p1
  have B1 := Lib.hid b1
  clear p1 b1 HN
  go_wp2_with fail
  refine (setSharp_any _ _ _ _ _ shb w1 P1.out).mono ?_
  rintro e w2 ⟨rfl, p2, b2⟩
  have P2 := Lib.hid p2
  have B2 := Lib.hid (B1.out.trans b2)
  clear p2 b2 P1 B1
  go_wp2_with fail
  refine (zz0x64_any _ _ _ _ _ u false w2 P2.out (Nat.zero_le _) (Nat.zero_le _) hu (by show (0 : Nat) + 4000000 ≤ 2147483647; omega) rfl rfl rfl).mono ?_
  rintro e w3 ⟨v3, rfl, p3, b3⟩
  have P3 : Hid (PF w.heap.size w.heap.size ⟨false, false, false, false, shb, false, false, 0, 0⟩ v3 (intT 16 ⟨false, false, false, false, false, false, false, 0, 0⟩ u) w3) := Lib.hid p3
  have B3 := Lib.hid (B2.out.trans b3)
  clear p3 b3 P2 B2
  rw [HF.out] at P3
  go_wp2_with fail
  refine (zzbuf_any _ _ _ _ _ w3 P3.out).mono ?_
  rintro e w3 ⟨rfl, rfl⟩
  have hz3 := B3.out.size
  have HN2 := Lib.hid (newF_any w3 (HM.out.keep hg B3.out) (by omega))
  go_wp2_with fail
  refine HN2.out.mono ?_
  rintro e w4 ⟨rfl, p4, b4⟩
  have P4 := Lib.hid p4
  have B4 := Lib.hid b4
  clear p4 b4 HN2
  generalize hg3 : w3.heap.size = g2 at *
  have HG3 := Lib.hid hg3
  clear hg3
  go_wp2_with fail
  refine (setSharp_any _ _ _ _ _ shb w4 P4.out).mono ?_
  rintro e w5 ⟨rfl, p5, b5⟩
  have P5 := Lib.hid p5
  have B5 := Lib.hid (B4.out.trans b5)
  clear p5 b5 P4 B4
  go_wp2_with fail
  refine (zz0x64_any _ _ _ _ _ u true w5 P5.out (Nat.zero_le _) (Nat.zero_le _) hu (by show (0 : Nat) + 4000000 ≤ 2147483647; omega) rfl rfl rfl).mono ?_
  rintro e w6 ⟨v6, rfl, p6, b6⟩
  have P6 : Hid (PF g2 g2 ⟨false, false, false, false, shb, false, false, 0, 0⟩ v6 (intT 16 ⟨false, false, false, false, true, false, false, 0, 0⟩ u) w6) := Lib.hid p6
  have B6 := Lib.hid (B5.out.trans b6)
  clear p6 b6 P5 B5
  rw [HT.out] at P6
  go_wp2_with fail
  refine (zzbuf_any _ _ _ _ _ w6 P6.out).mono ?_
  rintro e w6 ⟨rfl, rfl⟩
  have P7 := Lib.hid (P3.out.keep (by rw [HG3.out]; exact B6.out))
  have B7 := Lib.hid (B3.out.trans (B6.out.mono (by omega)))
  clear P3 B3 B6
  go_wp2_with fail
  refine (HP.out _).mono ?_
  rintro e w7 ⟨rfl, rfl⟩
  obtain ⟨c, hc1, hc2, hc3⟩ := HDG.out
  have hcat := cat_list
  have hix := fun W => idx_str _ 0 _ hc1 W
  rw [show ((UInt8.ofNat c).toNat) = c by rw [UInt8.toNat_ofNat']; omega] at hix
  simp only [Int.cast_ofNat_Int] at hix
  clear hc1 HF HT
  generalize digI 16 u = D at *
  by_cases hl : 1 < D.length
  · have t1 : decide ((D.length : Int) > 1) = true := by simp; omega
    have t2 : ((c : Int) == 48) = false := by
      have := hc3 hl
      simp
      omega
    clear hc3 hl
    go_wp2_with (go_at_call 10; first | (refine (zzsharp_any w.heap.size w.heap.size _ _ _ w6 P7.out).mono ?_; rintro e w7 ⟨rfl, rfl⟩) | (refine (zzsharp_any g2 g2 _ _ _ w6 P6.out).mono ?_; rintro e w7 ⟨rfl, rfl⟩))
    go_ret
    exact ⟨by first | rfl | simp, B7.out⟩
  · have t1 : decide ((D.length : Int) > 1) = false := by simp; omega
    clear hc3 hl
    go_wp2_with (go_at_call 10; first | (refine (zzsharp_any w.heap.size w.heap.size _ _ _ w6 P7.out).mono ?_; rintro e w7 ⟨rfl, rfl⟩) | (refine (zzsharp_any g2 g2 _ _ _ w6 P6.out).mono ?_; rintro e w7 ⟨rfl, rfl⟩))
    go_ret
    exact ⟨by first | rfl | simp, B7.out⟩
end Go.Proofs.YtfiinkdobcoihaaDoor
