/-
  FnIsLetterLatin1Table, walked: for every rune the answer is true. Conditions: none beside the two tables, which the card ties.
-/
import Derived.Test.YtnddjmbgcaoccaaDoorLetter
import Derived.PinnedBridge
namespace Go.Proofs.YtnddjmbgcaoccaaDoor
open Go.RowKit

/-! the plain part: no letter among the surrogates and above the last code point -/
def Misses (T : Array Lib.Rg) (r : Nat) : Prop := ∀ i, i < T.size → ¬ ((T.getD i (0, 0, 0)).1 ≤ r ∧ r ≤ (T.getD i (0, 0, 0)).2.1)
theorem lin_misses {T : Array Lib.Rg} {r : Nat} (h : Misses T r) : ∀ f i, Lib.linGo T r f i = false
  | 0, _ => rfl
  | f + 1, i => by
    unfold Lib.linGo
    by_cases hi : i < T.size
    · have hm := h i hi
      rw [if_pos hi]
      by_cases h1 : r < (T.getD i (0, 0, 0)).1
      · rw [if_pos h1]
      · rw [if_neg h1, if_neg (fun h2 => hm ⟨by omega, h2⟩)]
        exact lin_misses h f (i + 1)
    · rw [if_neg hi]
theorem bin_misses {T : Array Lib.Rg} {r : Nat} (h : Misses T r) : ∀ f lo hi, hi ≤ T.size → Lib.binGo T r f lo hi = false
  | 0, _, _, _ => rfl
  | f + 1, lo, hi, hh => by
    unfold Lib.binGo
    by_cases hl : lo < hi
    · rw [if_pos hl, if_neg (h ((lo + hi) / 2) (by omega))]
      by_cases h1 : r < (T.getD ((lo + hi) / 2) (0, 0, 0)).1
      · rw [if_pos h1]
        exact bin_misses h f _ _ (by omega)
      · rw [if_neg h1]
        exact bin_misses h f _ _ hh
    · rw [if_neg hl]
theorem is16_misses {T : Array Lib.Rg} {r : Nat} (h : Misses T r) : Lib.is16Go T r = false := by
  unfold Lib.is16Go
  split
  · exact lin_misses h _ _
  · exact bin_misses h _ _ _ (Nat.le_refl _)
theorem is32_misses {T : Array Lib.Rg} {r : Nat} (h : Misses T r) : Lib.is32Go T r = false := by
  unfold Lib.is32Go
  split
  · exact lin_misses h _ _
  · exact bin_misses h _ _ _ (Nat.le_refl _)
theorem all_at {T : Array Lib.Rg} {p : Lib.Rg → Bool} (h : T.all p = true) (i : Nat) (hi : i < T.size) : p (T.getD i (0, 0, 0)) = true := by
  have := Array.all_eq_true.1 h i hi
  simpa [Array.getD, hi] using this
set_option maxRecDepth 100000 in
theorem sur_ranges : (Lib.letterT.r16.extract Lib.letterT.off Lib.letterT.r16.size).all (fun x => decide (x.2.1 < 55296 ∨ 57343 < x.1)) = true := by decide +kernel
set_option maxRecDepth 100000 in
theorem top_ranges : Lib.letterT.r32.all (fun x => decide (x.2.1 ≤ 1114111)) = true := by decide +kernel
theorem last16 : 57343 ≤ (Lib.letterT.r16.getD (Lib.letterT.r16.size - 1) (0, 0, 0)).2.1 ∧ (Lib.letterT.r16.getD (Lib.letterT.r16.size - 1) (0, 0, 0)).2.1 ≤ 65535 := by decide +kernel
theorem off16 : Lib.letterT.off < Lib.letterT.r16.size := by decide +kernel
theorem sur_not (r : Int) (h0 : 55296 ≤ r) (h1 : r ≤ 57343) : Lib.isLetterU r = false := by
  have hl : Lib.latin1 r = false := by simp [Lib.latin1]; omega
  have hu : Lib.u32Of r = r.toNat := by unfold Lib.u32Of; omega
  have hlast := last16.1
  unfold Lib.isLetterU
  rw [hl]
  simp only [Bool.false_eq_true, if_false]
  unfold Lib.exclGo
  rw [if_pos ⟨off16, by rw [hu]; omega⟩, hu]
  apply is16_misses
  intro i hi hc
  have := all_at sur_ranges i hi
  simp only [decide_eq_true_eq] at this
  omega
theorem top_not (r : Int) (h0 : 1114111 < r) (h1 : r ≤ 2147483647) : Lib.isLetterU r = false := by
  have hl : Lib.latin1 r = false := by simp [Lib.latin1]; omega
  have hu : Lib.u32Of r = r.toNat := by unfold Lib.u32Of; omega
  have hlast := last16.2
  unfold Lib.isLetterU
  rw [hl]
  simp only [Bool.false_eq_true, if_false]
  unfold Lib.exclGo
  rw [if_neg (fun h => by have := h.2; rw [hu] at this; omega)]
  split
  · apply is32_misses
    intro i hi hc
    have := all_at top_ranges i hi
    simp only [decide_eq_true_eq] at this
    rw [hu] at hc
    omega
  · rfl
def tbl (r : Int) : Bool := asciiLetter r || decide (r = 170 ∨ r = 181 ∨ r = 186 ∨ (192 ≤ r ∧ r ≤ 214) ∨ (216 ≤ r ∧ r ≤ 246) ∨ (248 ≤ r ∧ r ≤ 255))
theorem letter_tbl (r : Int) (h1 : r ≤ 2147483647) (h : r < 256 ∨ (55296 ≤ r ∧ r ≤ 57343) ∨ 1114111 < r) : isLetterG r = tbl r := by
  rcases h with h | h | h
  · by_cases hb : 128 ≤ r
    · have ha : asciiLetter r = false := by simp [asciiLetter]; omega
      have hl : Lib.latin1 r = true := by simp [Lib.latin1]; omega
      have hd : decide (128 ≤ r) = true := by simpa using hb
      unfold isLetterG tbl Lib.isLetterU
      rw [ha, hl, hd]
      simp only [Bool.false_or, Bool.true_and, if_true]
      rw [Bool.eq_iff_iff]
      simp only [Lib.isLetterL, Lib.isUpperL, Lib.isLowerL, Bool.or_eq_true, decide_eq_true_eq]
      omega
    · have hd : decide (128 ≤ r) = false := by simpa using hb
      unfold isLetterG tbl
      rw [hd, Bool.false_and, Bool.or_false]
      have : decide (r = 170 ∨ r = 181 ∨ r = 186 ∨ (192 ≤ r ∧ r ≤ 214) ∨ (216 ≤ r ∧ r ≤ 246) ∨ (248 ≤ r ∧ r ≤ 255)) = false := by simp; omega
      rw [this, Bool.or_false]
  · have ha : asciiLetter r = false := by simp [asciiLetter]; omega
    unfold isLetterG tbl
    rw [ha, sur_not r h.1 h.2]
    simp
    omega
  · have ha : asciiLetter r = false := by simp [asciiLetter]; omega
    unfold isLetterG tbl
    rw [ha, top_not r h h1]
    simp
    omega

/-! the model's table -/
def letters53 : List UInt8 := [97, 98, 99, 100, 101, 102, 103, 104, 105, 106, 107, 108, 109, 110, 111, 112, 113, 114, 115, 116, 117, 118, 119, 120, 121, 122, 65, 66, 67, 68, 69, 70, 71, 72, 73, 74, 75, 76, 77, 78, 79, 80, 81, 82, 83, 84, 85, 86, 87, 88, 89, 90, 95]
theorem let_yes : ∀ j : Fin 53, asciiLetter ((letters53[j.val]'(j.isLt)).toNat : Int) = true := by decide +kernel
theorem let_no : ∀ r : Fin 256, asciiLetter (r.val : Int) = true → ∃ j : Fin 53, (letters53[j.val]'(j.isLt)).toNat = r.val := by decide +kernel

theorem wrap_small (x : Int) (h0 : 0 ≤ x) (h1 : x ≤ 255) : wrap32 x = x := by unfold wrap32; omega
def TblPost (r : Int) (w : World) (e : Ending) (w' : World) : Prop := e = .returned (.bool (tbl r)) ∧ w = w'
set_option maxHeartbeats 2000000 in
theorem latin_any (r : Int) (w : World) : Calls Tryd.prog 5 #[.int .i32 r] w (TblPost r w) := by
  by_cases hr0 : r < 0
  · go_enter Tryd.func5, Tryd.ntmps5
    go_wp2
    go_ret
    refine ⟨?_, rfl⟩
    have : tbl r = false := by simp [tbl, asciiLetter]; omega
    rw [this]; rfl
  by_cases hr1 : 255 < r
  · go_enter Tryd.func5, Tryd.ntmps5
    go_wp2
    go_ret
    refine ⟨?_, rfl⟩
    have : tbl r = false := by simp [tbl, asciiLetter]; omega
    rw [this]; rfl
  go_enter Tryd.func5, Tryd.ntmps5
  go_wp2
  go_loop [3] (fun i => ∃ k : Nat, k ≤ 53 ∧ i = .int .i64 k ∧ ∀ j : Fin 53, j.val < k → ((letters53[j.val]'(j.isLt)).toNat : Int) ≠ r) (fun i => 53 - (intOf i).toNat)
  case atStart => exact ⟨0, by omega, rfl, fun j hj => absurd hj (by omega)⟩
  case round =>
    obtain ⟨k, hk, rfl, hall⟩ := hrel
    have HA := Lib.hid hall
    clear hall
    by_cases hlt : k < 53
    · have hU := UInt8.toNat_lt (letters53[k]'hlt)
      have hwr : wrap32 ((letters53[k]'hlt).toNat : Int) = (letters53[k]'hlt).toNat := wrap_small _ (by omega) (by omega)
      have HWR := Lib.hid hwr
      have HY := Lib.hid (let_yes ⟨k, hlt⟩)
      clear hwr hU
      go_wp2
      · go_ret
        refine ⟨?_, rfl⟩
        have ht : (wrap32 ((letters53[k]'hlt).toNat : Int) == r) = true := by assumption
        rw [HWR.out] at ht
        have e : ((letters53[k]'hlt).toNat : Int) = r := by simpa using ht
        have hy : asciiLetter r = true := by rw [← e]; exact HY.out
        have : tbl r = true := by simp [tbl, hy]
        rw [this]; rfl
      · have ht : (wrap32 ((letters53[k]'hlt).toNat : Int) == r) = false := by assumption
        rw [HWR.out] at ht
        have e : ((letters53[k]'hlt).toNat : Int) ≠ r := by simpa using ht
        go_round
        case rel =>
          refine ⟨k + 1, by omega, by go_num, fun j hj => ?_⟩
          by_cases hjk : j.val < k
          · exact HA.out j hjk
          · have hjk2 : j = ⟨k, hlt⟩ := Fin.ext (by simp; omega)
            rw [hjk2]
            exact e
        case measure => simp [intOf]; omega
    · obtain rfl : k = 53 := by omega
      have hno : asciiLetter r = false := by
        cases hc : asciiLetter r with
        | false => rfl
        | true =>
          obtain ⟨j, hj⟩ := let_no ⟨r.toNat, by omega⟩ (by simpa [show ((r.toNat : Nat) : Int) = r from by omega] using hc)
          have := HA.out j j.isLt
          simp only at hj
          omega
      have HN := Lib.hid hno
      clear hno
      by_cases c1 : r = 170
      · subst c1
        go_wp2
        go_ret
        exact ⟨rfl, rfl⟩
      by_cases c2 : r = 181
      · subst c2
        go_wp2
        go_ret
        exact ⟨rfl, rfl⟩
      by_cases c3 : r = 186
      · subst c3
        go_wp2
        go_ret
        exact ⟨rfl, rfl⟩
      have t1 : (r == 170) = false := by simpa using c1
      have t2 : (r == 181) = false := by simpa using c2
      have t3 : (r == 186) = false := by simpa using c3
      have C1 := Lib.hid c1
      have C2 := Lib.hid c2
      have C3 := Lib.hid c3
      clear c1 c2 c3
      go_wp2
      all_goals go_ret
      all_goals refine ⟨?_, rfl⟩
      all_goals
        have hno := HN.out
        have c1 := C1.out
        have c2 := C2.out
        have c3 := C3.out
        first
          | (have : tbl r = true := by unfold tbl; rw [hno]; simp; omega
             rw [this]; rfl)
          | (have : tbl r = false := by unfold tbl; rw [hno]; simp; omega
             rw [this]; rfl)

set_option maxHeartbeats 1000000 in
theorem latin_law (r : Int) (w : World) (h0 : -2147483648 ≤ r) (h1 : r ≤ 2147483647) (hT : LetterTabs w) :
    Calls Tryd.prog 3 #[.int .i32 r] w fun e w' => e = .returned (.bool true) ∧ Below w.heap.size w w' := by
  have H := Lib.hid hT
  clear hT
  by_cases hx : r < 256 ∨ (55296 ≤ r ∧ r ≤ 57343) ∨ 1114111 < r
  · have HE := Lib.hid (letter_tbl r h1 hx)
    rcases hx with hx | hx | hx
    · have t1 : ¬ 256 ≤ r := by omega
      go_enter Tryd.func3, Tryd.ntmps3
      go_wp2_with (first
        | (go_at_call 4; go_in)
        | (go_at_call 6; refine (isLetter_any _ _ h1 H.out).mono ?_; rintro e w1 ⟨rfl, hb⟩; have HB := Lib.hid hb; clear hb)
        | (go_at_call 5; refine (latin_any _ _).mono ?_; rintro e w' ⟨rfl, rfl⟩))
      go_ret
      exact ⟨by rw [HE.out]; simp, HB.out⟩
    · obtain ⟨hx1, hx2⟩ := hx
      have t1 : 256 ≤ r := by omega
      have t2 : r ≤ 1114111 := by omega
      go_enter Tryd.func3, Tryd.ntmps3
      go_wp2_with (first
        | (go_at_call 4; go_in)
        | (go_at_call 6; refine (isLetter_any _ _ h1 H.out).mono ?_; rintro e w1 ⟨rfl, hb⟩; have HB := Lib.hid hb; clear hb)
        | (go_at_call 5; refine (latin_any _ _).mono ?_; rintro e w' ⟨rfl, rfl⟩))
      go_ret
      exact ⟨by rw [HE.out]; simp, HB.out⟩
    · have t1 : 256 ≤ r := by omega
      have t2 : ¬ r ≤ 1114111 := by omega
      go_enter Tryd.func3, Tryd.ntmps3
      go_wp2_with (first
        | (go_at_call 4; go_in)
        | (go_at_call 6; refine (isLetter_any _ _ h1 H.out).mono ?_; rintro e w1 ⟨rfl, hb⟩; have HB := Lib.hid hb; clear hb)
        | (go_at_call 5; refine (latin_any _ _).mono ?_; rintro e w' ⟨rfl, rfl⟩))
      go_ret
      exact ⟨by rw [HE.out]; simp, HB.out⟩
  · have t1 : 256 ≤ r := by omega
    have t2 : r ≤ 1114111 := by omega
    by_cases t3 : 55296 ≤ r
    · have t4 : ¬ r ≤ 57343 := by omega
      go_enter Tryd.func3, Tryd.ntmps3
      go_wp2_with fail
      go_ret
      exact ⟨rfl, Below.refl _ _⟩
    · go_enter Tryd.func3, Tryd.ntmps3
      go_wp2_with fail
      go_ret
      exact ⟨rfl, Below.refl _ _⟩

end Go.Proofs.YtnddjmbgcaoccaaDoor
