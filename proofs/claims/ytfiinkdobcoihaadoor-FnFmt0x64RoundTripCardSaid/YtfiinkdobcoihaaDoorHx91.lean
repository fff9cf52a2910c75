/-
  The law's own zzHex and zzParseHex. Conditions: as stated.
-/
import Derived.Test.YtfiinkdobcoihaaDoorRp91
namespace Go.Proofs.YtfiinkdobcoihaaDoor
open Go.RowKit
set_option maxRecDepth 100000
set_option linter.unusedVariables false

theorem dgs_fuel (b : Nat) (hb : 0 < b) : ∀ (f x : Nat) (acc : List UInt8), x < b ^ (f + 1) → dgs b (f + 1) x acc = dgs b f x acc
  | 0, x, acc, h => by
    show (if b ≤ x then dgs b 0 (x / b) (hx (x % b) :: acc) else hx x :: acc) = hx x :: acc
    rw [if_neg (by simp at h; omega)]
  | f + 1, x, acc, h => by
    show (if b ≤ x then dgs b (f + 1) (x / b) (hx (x % b) :: acc) else hx x :: acc) = (if b ≤ x then dgs b f (x / b) (hx (x % b) :: acc) else hx x :: acc)
    split
    · exact dgs_fuel b hb f (x / b) _ (by rw [Nat.pow_succ] at h; exact Nat.div_lt_of_lt_mul (by rw [Nat.mul_comm]; exact h))
    · rfl
/-- the text that zzHex has so far: nothing ahead of the first digit -/
def hexSo (x : Nat) : List UInt8 := if x = 0 then [] else digI 16 x
theorem hexSo_step (x d : Nat) (hd : d < 16) (hx' : x < 16 ^ 15) (h0 : ¬ (x = 0 ∧ d = 0)) : hexSo (16 * x + d) = hexSo x ++ [hx d] := by
  unfold hexSo
  rw [if_neg (by omega)]
  show dgs 16 15 (16 * x + d) [] = _
  by_cases h : x = 0
  · subst h
    rw [if_pos rfl, dgs, if_neg (by omega), Nat.mul_zero, Nat.zero_add]
    rfl
  · rw [if_neg h, dgs, if_pos (by omega), show (16 * x + d) / 16 = x by omega, show (16 * x + d) % 16 = d by omega, dgs_acc]
    show dgs 16 14 x [] ++ [hx d] = dgs 16 15 x [] ++ [hx d]
    rw [dgs_fuel 16 (by decide) 14 x [] hx']
theorem idh_0 (W : World) : (Instr.index 9 (.string ⟨#[48, 49, 50, 51, 52, 53, 54, 55, 56, 57, 97, 98, 99, 100, 101, 102]⟩) (.int .u64 0)).run Tryd.prog W = .ok (.int .u8 48) W := by kernel_rfl
theorem idh_1 (W : World) : (Instr.index 9 (.string ⟨#[48, 49, 50, 51, 52, 53, 54, 55, 56, 57, 97, 98, 99, 100, 101, 102]⟩) (.int .u64 1)).run Tryd.prog W = .ok (.int .u8 49) W := by kernel_rfl
theorem idh_2 (W : World) : (Instr.index 9 (.string ⟨#[48, 49, 50, 51, 52, 53, 54, 55, 56, 57, 97, 98, 99, 100, 101, 102]⟩) (.int .u64 2)).run Tryd.prog W = .ok (.int .u8 50) W := by kernel_rfl
theorem idh_3 (W : World) : (Instr.index 9 (.string ⟨#[48, 49, 50, 51, 52, 53, 54, 55, 56, 57, 97, 98, 99, 100, 101, 102]⟩) (.int .u64 3)).run Tryd.prog W = .ok (.int .u8 51) W := by kernel_rfl
theorem idh_4 (W : World) : (Instr.index 9 (.string ⟨#[48, 49, 50, 51, 52, 53, 54, 55, 56, 57, 97, 98, 99, 100, 101, 102]⟩) (.int .u64 4)).run Tryd.prog W = .ok (.int .u8 52) W := by kernel_rfl
theorem idh_5 (W : World) : (Instr.index 9 (.string ⟨#[48, 49, 50, 51, 52, 53, 54, 55, 56, 57, 97, 98, 99, 100, 101, 102]⟩) (.int .u64 5)).run Tryd.prog W = .ok (.int .u8 53) W := by kernel_rfl
theorem idh_6 (W : World) : (Instr.index 9 (.string ⟨#[48, 49, 50, 51, 52, 53, 54, 55, 56, 57, 97, 98, 99, 100, 101, 102]⟩) (.int .u64 6)).run Tryd.prog W = .ok (.int .u8 54) W := by kernel_rfl
theorem idh_7 (W : World) : (Instr.index 9 (.string ⟨#[48, 49, 50, 51, 52, 53, 54, 55, 56, 57, 97, 98, 99, 100, 101, 102]⟩) (.int .u64 7)).run Tryd.prog W = .ok (.int .u8 55) W := by kernel_rfl
theorem idh_8 (W : World) : (Instr.index 9 (.string ⟨#[48, 49, 50, 51, 52, 53, 54, 55, 56, 57, 97, 98, 99, 100, 101, 102]⟩) (.int .u64 8)).run Tryd.prog W = .ok (.int .u8 56) W := by kernel_rfl
theorem idh_9 (W : World) : (Instr.index 9 (.string ⟨#[48, 49, 50, 51, 52, 53, 54, 55, 56, 57, 97, 98, 99, 100, 101, 102]⟩) (.int .u64 9)).run Tryd.prog W = .ok (.int .u8 57) W := by kernel_rfl
theorem idh_10 (W : World) : (Instr.index 9 (.string ⟨#[48, 49, 50, 51, 52, 53, 54, 55, 56, 57, 97, 98, 99, 100, 101, 102]⟩) (.int .u64 10)).run Tryd.prog W = .ok (.int .u8 97) W := by kernel_rfl
theorem idh_11 (W : World) : (Instr.index 9 (.string ⟨#[48, 49, 50, 51, 52, 53, 54, 55, 56, 57, 97, 98, 99, 100, 101, 102]⟩) (.int .u64 11)).run Tryd.prog W = .ok (.int .u8 98) W := by kernel_rfl
theorem idh_12 (W : World) : (Instr.index 9 (.string ⟨#[48, 49, 50, 51, 52, 53, 54, 55, 56, 57, 97, 98, 99, 100, 101, 102]⟩) (.int .u64 12)).run Tryd.prog W = .ok (.int .u8 99) W := by kernel_rfl
theorem idh_13 (W : World) : (Instr.index 9 (.string ⟨#[48, 49, 50, 51, 52, 53, 54, 55, 56, 57, 97, 98, 99, 100, 101, 102]⟩) (.int .u64 13)).run Tryd.prog W = .ok (.int .u8 100) W := by kernel_rfl
theorem idh_14 (W : World) : (Instr.index 9 (.string ⟨#[48, 49, 50, 51, 52, 53, 54, 55, 56, 57, 97, 98, 99, 100, 101, 102]⟩) (.int .u64 14)).run Tryd.prog W = .ok (.int .u8 101) W := by kernel_rfl
theorem idh_15 (W : World) : (Instr.index 9 (.string ⟨#[48, 49, 50, 51, 52, 53, 54, 55, 56, 57, 97, 98, 99, 100, 101, 102]⟩) (.int .u64 15)).run Tryd.prog W = .ok (.int .u8 102) W := by kernel_rfl
theorem idx16_hx (d : Nat) (h : d < 16) (W : World) : (Instr.index 9 (.string ⟨#[48, 49, 50, 51, 52, 53, 54, 55, 56, 57, 97, 98, 99, 100, 101, 102]⟩) (.int .u64 (d : Int))).run Tryd.prog W = .ok (.int .u8 ((hx d).toNat : Int)) W := by
  have hh : d = 0 ∨ d = 1 ∨ d = 2 ∨ d = 3 ∨ d = 4 ∨ d = 5 ∨ d = 6 ∨ d = 7 ∨ d = 8 ∨ d = 9 ∨ d = 10 ∨ d = 11 ∨ d = 12 ∨ d = 13 ∨ d = 14 ∨ d = 15 := by omega
  rcases hh with rfl | rfl | rfl | rfl | rfl | rfl | rfl | rfl | rfl | rfl | rfl | rfl | rfl | rfl | rfl | rfl
  · exact (idh_0 W).trans rfl
  · exact (idh_1 W).trans rfl
  · exact (idh_2 W).trans rfl
  · exact (idh_3 W).trans rfl
  · exact (idh_4 W).trans rfl
  · exact (idh_5 W).trans rfl
  · exact (idh_6 W).trans rfl
  · exact (idh_7 W).trans rfl
  · exact (idh_8 W).trans rfl
  · exact (idh_9 W).trans rfl
  · exact (idh_10 W).trans rfl
  · exact (idh_11 W).trans rfl
  · exact (idh_12 W).trans rfl
  · exact (idh_13 W).trans rfl
  · exact (idh_14 W).trans rfl
  · exact (idh_15 W).trans rfl
set_option maxHeartbeats 4000000 in
theorem hex_any (u : Nat) (hu : u < 18446744073709551616) (w : World) :
    Calls Tryd.prog 14 #[.int .u64 (u : Int)] w fun e w' => e = .returned (.string ⟨(digI 16 u).toArray⟩) ∧ Below w.heap.size w w' := by
  by_cases h0 : u = 0
  · subst h0
    have e : digI 16 0 = [48] := rfl
    rw [e]
    clear e
    go_enter Tryd.func14, Tryd.ntmps14
    go_wp2_with fail
    go_ret
    exact ⟨rfl, Below.refl _ _⟩
  have t0 : ((u : Int) == 0) = false := by simp; omega
  have e : digI 16 u = hexSo u := by unfold hexSo; rw [if_neg h0]
  rw [e]
  clear e
  obtain ⟨i0, hii, hy0, hy1, hy2⟩ := info_parts u8_info
  have HO0 := Lib.hid (OwnB.nil w w.heap.size)
  go_enter Tryd.func14, Tryd.ntmps14
  go_wp2_with fail
  go_loopw [3, 4, 5] (fun v3 v4 v5 wr => ∃ (k : Nat) (z : Int) (st : Bool) (l : List UInt8), k ≤ 16 ∧ z = 4 * (k : Int) - 4 ∧ v5 = .int .i64 z ∧ v4 = .bool st ∧ (st = true ↔ u / 16 ^ k ≠ 0) ∧ l = hexSo (u / 16 ^ k) ∧ OwnB wr w.heap.size v3 l.length l ∧ Below w.heap.size w wr) (fun _ _ v5 _ => (intOf v5 + 4).toNat)
  case atStart =>
    have e16 : u / 16 ^ 16 = 0 := Nat.div_eq_of_lt (by omega)
    exact ⟨16, 60, false, [], Nat.le_refl _, by decide, rfl, rfl, by rw [e16]; simp, by rw [e16]; rfl, HO0.out, Below.refl _ _⟩
  case round =>
    obtain ⟨k, z, st, l, hk, hz, rfl, rfl, hst, hl, ho, hbl⟩ := hrel
    rcases k with _ | k
    · have hzn : z < 0 := by omega
      rw [Nat.pow_zero, Nat.div_one] at hl
      obtain ⟨ao, cp, rfl, _, _⟩ := ho.val
      have hcv := ho.txt
      have HBL := Lib.hid hbl
      have HL := Lib.hid hl
      clear hz ho hbl HO0 hl hst
      go_wp2_with fail
      go_ret
      exact ⟨by rw [← HL.out]; rfl, HBL.out⟩
    · obtain ⟨s, hs⟩ : ∃ s : Nat, s = 4 * k := ⟨_, rfl⟩
      obtain rfl : z = (s : Int) := by omega
      have hs60 : s ≤ 60 := by omega
      have hks : 2 ^ s = 16 ^ k := by rw [hs, Nat.pow_mul]
      have e1 : (u : Int) / 2 ^ s = ((u / 16 ^ k : Nat) : Int) := by
        rw [← hks, Int.natCast_ediv, Int.natCast_pow]
        rfl
      have e2 : u / 16 ^ k / 16 = u / 16 ^ (k + 1) := by rw [Nat.pow_succ, Nat.div_div_eq_div_mul]
      obtain ⟨q, hq⟩ : ∃ q, u / 16 ^ k = q := ⟨_, rfl⟩
      obtain ⟨x, hx'⟩ : ∃ x, u / 16 ^ (k + 1) = x := ⟨_, rfl⟩
      have hql : q < 18446744073709551616 := by rw [← hq]; exact Nat.lt_of_le_of_lt (Nat.div_le_self _ _) hu
      rw [hq] at e1 e2
      rw [hx'] at e2 hst hl
      obtain ⟨d, hd⟩ : ∃ d, q % 16 = d := ⟨_, rfl⟩
      have hd16 : d < 16 := by omega
      have hqx : q = 16 * x + d := by omega
      have hxl : x < 16 ^ 15 := by omega
      have hand : bits BinOp.and IntKind.u64 ((u : Int) / 2 ^ s) 15 = (d : Int) := by rw [e1, and15 q hql, hd]
      have hix := fun W => idx16_hx d hd16 W
      have HSS := Lib.hid hs
      have HQ := Lib.hid hq
      have HO := Lib.hid ho
      have HBL := Lib.hid hbl
      have HST := Lib.hid hst
      have HL := Lib.hid hl
      have HZB := Lib.hid hbl.size
      have hk16 : k ≤ 15 := by omega
      have hll : l.length ≤ 20 := by
        rw [hl]
        unfold hexSo
        split
        · simp
        · exact (digI_len 16 x).2
      clear hz hs ho hbl HO0 e1 e2 hq hx' hd hst hl hks
      by_cases h00 : x = 0 ∧ d = 0
      · obtain ⟨hx0, hd0⟩ := h00
        obtain rfl : st = false := by
          cases st
          · rfl
          · exact absurd hx0 (HST.out.1 rfl)
        have q0 : q = 0 := by omega
        have HN : Hid ((false = true ↔ u / 16 ^ k ≠ 0) ∧ l = hexSo (u / 16 ^ k)) := Lib.hid (by rw [HQ.out, HL.out, hx0, q0]; simp)
        subst hd0
        simp only [Int.cast_ofNat_Int] at hand hix
        clear hqx hx0 q0
        go_wp2_with fail
        go_roundw
        case rel => exact ⟨k, (s : Int) - 4, false, l, by omega, by have := HSS.out; omega, rfl, rfl, HN.out.1, HN.out.2, HO.out, HBL.out⟩
        case measure => simp [intOf]; omega
      · have HN : Hid ((True ↔ u / 16 ^ k ≠ 0) ∧ l ++ [hx d] = hexSo (u / 16 ^ k)) := Lib.hid (by
          rw [HQ.out, HL.out, hqx, hexSo_step x d hd16 hxl h00]
          refine ⟨⟨fun _ => by omega, fun _ => trivial⟩, rfl⟩)
        have hcase : (d ≠ 0) ∨ (d = 0 ∧ st = true) := by
          by_cases hd0 : d = 0
          · exact Or.inr ⟨hd0, HST.out.2 (fun hx0 => h00 ⟨hx0, hd0⟩)⟩
          · exact Or.inl hd0
        clear hqx h00 HQ HL HST
        rcases hcase with hd0 | ⟨hd0, rfl⟩
        · have t1 : ((d : Int) != 0) = true := by simp; omega
          have t2 : ((d : Int) == 0) = false := by simp; omega
          have hd0' : ¬ (d : Int) = 0 := by omega
          clear hd0
          go_wp2_with (at_builtin; refine Hid.out ?_)
          refine Lib.hid ?_
          refine wp_app_one (hx d).toNat (UInt8.toNat_lt _) rfl (.tmp 23) (.tmp 26) rfl w.heap.size _ l.length l rfl HO.out rfl (by omega) HZB.out ?_
          intro ao kk cp w2 _ ho2 hb2
          have hl2 := ho2.len
          rw [UInt8.ofNat_toNat] at ho2 hl2
          subst hl2
          have HO2 := Lib.hid ho2
          have HB2 := Lib.hid (HBL.out.trans hb2)
          clear ho2 hb2
          go_wp2_with fail
          go_roundw
          case rel => exact ⟨k, (s : Int) - 4, true, l ++ [hx d], by omega, by have := HSS.out; omega, rfl, rfl, by have := HN.out.1; simpa using this, HN.out.2, by have h9 := HO2.out; rw [show (l ++ [hx d]).length = l.length + 1 by simp] at h9 ⊢; exact h9, HB2.out⟩
          case measure => simp [intOf]; omega
        · subst hd0
          simp only [Int.cast_ofNat_Int] at hand hix
          go_wp2_with (at_builtin; refine Hid.out ?_)
          refine Lib.hid ?_
          refine wp_app_one (hx 0).toNat (UInt8.toNat_lt _) rfl (.tmp 23) (.tmp 26) rfl w.heap.size _ l.length l rfl HO.out rfl (by omega) HZB.out ?_
          intro ao kk cp w2 _ ho2 hb2
          have hl2 := ho2.len
          rw [UInt8.ofNat_toNat] at ho2 hl2
          subst hl2
          have HO2 := Lib.hid ho2
          have HB2 := Lib.hid (HBL.out.trans hb2)
          clear ho2 hb2
          go_wp2_with fail
          go_roundw
          case rel => exact ⟨k, (s : Int) - 4, true, l ++ [hx 0], by omega, by have := HSS.out; omega, rfl, rfl, by have := HN.out.1; simpa using this, HN.out.2, by have h9 := HO2.out; rw [show (l ++ [hx 0]).length = l.length + 1 by simp] at h9 ⊢; exact h9, HB2.out⟩
          case measure => simp [intOf]; omega
end Go.Proofs.YtfiinkdobcoihaaDoor
