/-
  FnArrayTypeNameIsArrayForEveryArrayResult, walked. Conditions: none (beyond the law's own bounds it says true at once).
-/
import Derived.Test.YtelclbbocnlanaaDoorClone92
import Derived.Test.YtelclbbocnlanaaDoorObjs92
import Derived.Test.YtelclbbocnlanaaDoorBin92
namespace Go.Proofs.YtelclbbocnlanaaDoor
open Go.RowKit
set_option maxRecDepth 100000
set_option linter.unusedVariables false

set_option maxHeartbeats 400000 in
theorem bytes_tn (o0 : Option Addr) (n0 cap0 : Nat) (o1 : Option Addr) (n1 cap1 : Nat) (w : World) (h0 : n0 ≤ 9223372036854775807) (h1 : n1 ≤ 9223372036854775807) :
    Calls Tryd.prog 4 #[.slice o0 n0 cap0, .slice o1 n1 cap1] w fun e w' => e = .returned (.bool (decide (n0 + n1 ≤ 1048576))) ∧ w = w' := by
  go_enter Tryd.func4, Tryd.ntmps4
  go_wp2
  all_goals (go_ret; first | exact ⟨ret_t (by omega), rfl⟩ | exact ⟨ret_f (by omega), rfl⟩)

/-- an array object in memory -/
def ArrAt (w : World) (a b : Nat) (l : List Int) : Prop := w.cell? ⟨a, 0, none⟩ = some (.slice (some ⟨b, 0, none⟩) l.length l.length) ∧ ObjsAt w w.heap.size b l ∧ a < w.heap.size
theorem ArrAt.below {w w' : World} {a b : Nat} {l : List Int} (h : ArrAt w a b l) (hb : Below w.heap.size w w') : ArrAt w' a b l :=
  ⟨(hb.cell (p := ⟨a, 0, none⟩) h.2.2).trans h.1, (h.2.1.keep hb.block).more hb.size, Nat.lt_of_lt_of_le h.2.2 hb.size⟩
theorem ArrAt.mk' {w : World} {b : Nat} {l : List Int} (t : TypeId) (h : ObjsAt w w.heap.size b l) : ArrAt (w.alloc (.cells #[.slice (some ⟨b, 0, none⟩) l.length l.length] t)) w.heap.size b l :=
  ⟨by rw [(Blk.new w t _).cell]; rfl, (h.keep ((Below.refl w.heap.size w).alloc (Nat.le_refl _) _).block).more (by simp), by simp⟩
theorem step_below {w a b : World} (h : Below w.heap.size w a) (k : Below a.heap.size a b) : Below w.heap.size w b := h.trans (k.mono h.size)
theorem IntsAt.below {w w' : World} {oA : Option Addr} {l : List Int} (h : IntsAt w w.heap.size oA l) (hb : Below w.heap.size w w') : IntsAt w' w'.heap.size oA l := (h.keep hb.block).more hb.size
set_option maxHeartbeats 4000000 in
theorem law_tn (oX oY : Option Addr) (cx cy : Nat) (xs ys : List Int) (w : World) (hcx : xs.length ≤ cx) (hmx : cx ≤ maxLen) (hcy : ys.length ≤ cy) (hmy : cy ≤ maxLen) (hX : IntsAt w w.heap.size oX xs) (hY : IntsAt w w.heap.size oY ys) (hnX : oX = none → xs = [] ∧ cx = 0) (hnY : oY = none → ys = [] ∧ cy = 0) :
    Calls Tryd.prog 3 #[.slice oX xs.length cx, .slice oY ys.length cy] w fun e w' => e = .returned (.bool true) ∧ Below w.heap.size w w' := by
  have hlx : xs.length ≤ 9223372036854775807 := by simp only [maxLen] at hmx; omega
  have hly : ys.length ≤ 9223372036854775807 := by simp only [maxLen] at hmy; omega
  have HB := fun W => bytes_tn oX xs.length cx oY ys.length cy W hlx hly
  by_cases hb20 : xs.length + ys.length ≤ 1048576
  rotate_left
  · rw [decide_eq_false hb20] at HB
    clear hX hY hb20 hnX hnY
    go_enter Tryd.func3, Tryd.ntmps3
    go_wp2_with (go_at_call 4; refine (HB _).mono ?_; rintro e w2 ⟨rfl, rfl⟩)
    go_ret
    exact ⟨rfl, Below.refl _ _⟩
  rw [decide_eq_true hb20] at HB
  by_cases h1 : 65536 < xs.length
  · have t1 : decide ((xs.length : Int) > 65536) = true := by simp; omega
    clear hX hY hb20 hnX hnY
    go_enter Tryd.func3, Tryd.ntmps3
    go_wp2_with (go_at_call 4; refine (HB _).mono ?_; rintro e w2 ⟨rfl, rfl⟩)
    go_ret
    exact ⟨rfl, Below.refl _ _⟩
  have t1 : decide ((xs.length : Int) > 65536) = false := by simp; omega
  by_cases h2 : 65536 < ys.length
  · have t2 : decide ((ys.length : Int) > 65536) = true := by simp; omega
    clear hX hY hb20 hnX hnY
    go_enter Tryd.func3, Tryd.ntmps3
    go_wp2_with (go_at_call 4; refine (HB _).mono ?_; rintro e w2 ⟨rfl, rfl⟩)
    go_ret
    exact ⟨rfl, Below.refl _ _⟩
  have t2 : decide ((ys.length : Int) > 65536) = false := by simp; omega
  have HCX := Lib.hid (clone_any oX cx xs w hX hnX (by omega))
  have Y0 := Lib.hid hY
  have NY := Lib.hid hnY
  have hmt := method_tn
  clear hX hY hnX hnY
  go_enter Tryd.func3, Tryd.ntmps3
  go_wp2_with first | (go_at_call 4; refine (HB _).mono ?_; rintro e w2 ⟨rfl, rfl⟩) | (go_at_call 5; refine Hid.out ?_)
  refine Lib.hid ?_
  refine HCX.out.mono ?_
  rintro e w1 ⟨oA, ca, rfl, _, hX1, _, hb1⟩
  have HCY := Lib.hid (clone_any oY cy ys w1 (Y0.out.below hb1) NY.out (by omega))
  have X1 := Lib.hid hX1
  have B1 := Lib.hid hb1
  clear hX1 hb1 HCX Y0 NY HB
  go_wp2_with fail
  refine HCY.out.mono ?_
  rintro e w2 ⟨oB, cb, rfl, _, hY2, _, hb2⟩
  have X2 := Lib.hid (X1.out.below hb2)
  have Y2 := Lib.hid hY2
  have B2 := Lib.hid (step_below B1.out hb2)
  clear hY2 hb2 HCY X1 B1
  go_wp2_with fail
  refine (objs_any oA ca xs w2 X2.out (by omega)).mono ?_
  rintro e w3 ⟨b3, rfl, _, ho3, hb3⟩
  have hba3 := hb3.alloc hb3.size (.cells #[.slice (some ⟨b3, 0, none⟩) xs.length xs.length] 31)
  have A3 := Lib.hid (ArrAt.mk' 31 ho3)
  have X3 := Lib.hid (X2.out.below hba3)
  have Y3 := Lib.hid (Y2.out.below hba3)
  have B3 := Lib.hid (step_below B2.out hba3)
  clear ho3 hb3 hba3 X2 Y2 B2
  go_wp2_with fail
  generalize (w3.alloc (.cells #[.slice (some ⟨b3, 0, none⟩) xs.length xs.length] 31)) = w4 at A3 X3 Y3 B3 ⊢
  generalize w3.heap.size = a3 at *
  refine (objs_any oB cb ys w4 Y3.out (by omega)).mono ?_
  rintro e w5 ⟨b5, rfl, _, ho5, hb5⟩
  have hba5 := hb5.alloc hb5.size (.cells #[.slice (some ⟨b5, 0, none⟩) ys.length ys.length] 31)
  have A5 := Lib.hid (A3.out.below hba5)
  have C5 := Lib.hid (ArrAt.mk' 31 ho5)
  have X5 := Lib.hid (X3.out.below hba5)
  have B5 := Lib.hid (step_below B3.out hba5)
  clear ho5 hb5 hba5 X3 Y3 B3 A3
  go_wp2_with fail
  generalize (w5.alloc (.cells #[.slice (some ⟨b5, 0, none⟩) ys.length ys.length] 31)) = w6 at A5 C5 X5 B5 ⊢
  generalize w5.heap.size = a5 at *
  have hba6 := (Below.refl w6.heap.size w6).alloc (Nat.le_refl _) (.cells #[.slice none 0 0] 31)
  have A6 := Lib.hid (A5.out.below hba6)
  have C6 := Lib.hid (C5.out.below hba6)
  have X6 := Lib.hid (X5.out.below hba6)
  have B6 := Lib.hid (step_below B5.out hba6)
  clear hba6 A5 C5 X5 B5
  go_wp2_with first | (go_at_call 7; refine (tn_any _ _).mono ?_; rintro e w' ⟨rfl, rfl⟩) | (go_at_call 9; refine (tm_any _ _).mono ?_; rintro e w' ⟨rfl, rfl⟩) | (go_at_call 8; refine Hid.out ?_)
  refine Lib.hid ?_
  generalize (w6.alloc (.cells #[.slice none 0 0] 31)) = w7 at A6 C6 X6 B6 ⊢
  refine (arrCopy_any a3 b3 xs.length xs w7 rfl (by omega) A6.out.1 A6.out.2.2 A6.out.2.1).mono ?_
  rintro e w8 ⟨p8, v8, rfl, _, _, hb8⟩
  have A8 := Lib.hid (A6.out.below hb8)
  have C8 := Lib.hid (C6.out.below hb8)
  have X8 := Lib.hid (X6.out.below hb8)
  have B8 := Lib.hid (step_below B6.out hb8)
  clear hb8 A6 C6 X6 B6
  go_wp2_with first | (go_at_call 7; refine (tn_any _ _).mono ?_; rintro e w' ⟨rfl, rfl⟩) | (go_at_call 9; refine (tm_any _ _).mono ?_; rintro e w' ⟨rfl, rfl⟩) | (go_at_call 6; refine Hid.out ?_)
  refine Lib.hid ?_
  refine (objs_any oA ca xs w8 X8.out (by omega)).mono ?_
  rintro e w9 ⟨b9, rfl, _, ho9, hb9⟩
  have hba9 := hb9.alloc hb9.size (.cells #[.slice (some ⟨b9, 0, none⟩) xs.length xs.length] 37)
  have A9 := Lib.hid (A8.out.below hba9)
  have C9 := Lib.hid (C8.out.below hba9)
  have D9 := Lib.hid (ArrAt.mk' 37 ho9)
  have B9 := Lib.hid (step_below B8.out hba9)
  clear ho9 hb9 hba9 A8 C8 X8 B8
  go_wp2_with first | (go_at_call 7; refine (tn_any _ _).mono ?_; rintro e w' ⟨rfl, rfl⟩) | (go_at_call 9; refine (tm_any _ _).mono ?_; rintro e w' ⟨rfl, rfl⟩) | (go_at_call 10; refine Hid.out ?_)
  refine Lib.hid ?_
  generalize (w9.alloc (.cells #[.slice (some ⟨b9, 0, none⟩) xs.length xs.length] 37)) = w10 at A9 C9 D9 B9 ⊢
  generalize w9.heap.size = a9 at *
  refine (immCopy_any a9 b9 xs.length xs w10 rfl (by omega) D9.out.1 D9.out.2.2 D9.out.2.1).mono ?_
  rintro e w11 ⟨p11, v11, rfl, _, _, hb11⟩
  have A11 := Lib.hid (A9.out.below hb11)
  have C11 := Lib.hid (C9.out.below hb11)
  have B11 := Lib.hid (step_below B9.out hb11)
  clear hb11 A9 C9 D9 B9
  go_wp2_with first | (go_at_call 7; refine (tn_any _ _).mono ?_; rintro e w' ⟨rfl, rfl⟩) | (go_at_call 9; refine (tm_any _ _).mono ?_; rintro e w' ⟨rfl, rfl⟩) | (go_at_call 11; refine Hid.out ?_)
  refine Lib.hid ?_
  refine (bin_any a3 b3 a5 b5 xs.length ys.length xs ys w11 rfl rfl (by omega) (by omega) A11.out.1 C11.out.1 A11.out.2.1 C11.out.2.1).mono ?_
  rintro e w12 (⟨_, rfl, rfl⟩ | ⟨p12, b12, c12, rfl, _, _, _, hb12⟩)
  · clear A11 C11
    go_wp2_with first | (go_at_call 7; refine (tn_any _ _).mono ?_; rintro e w' ⟨rfl, rfl⟩) | (go_at_call 9; refine (tm_any _ _).mono ?_; rintro e w' ⟨rfl, rfl⟩)
    go_ret
    exact ⟨rfl, B11.out⟩
  · have B12 := Lib.hid (step_below B11.out hb12)
    clear hb12 A11 C11 B11
    go_wp2_with first | (go_at_call 7; refine (tn_any _ _).mono ?_; rintro e w' ⟨rfl, rfl⟩) | (go_at_call 9; refine (tm_any _ _).mono ?_; rintro e w' ⟨rfl, rfl⟩)
    go_ret
    exact ⟨rfl, B12.out⟩
end Go.Proofs.YtelclbbocnlanaaDoor
