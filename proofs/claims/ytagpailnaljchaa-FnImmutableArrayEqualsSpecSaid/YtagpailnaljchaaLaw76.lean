/-
  FnImmutableArrayEqualsSpec, walked. Conditions: none (beyond the law's own bounds it says true at once).
-/
import Derived.Test.YtagpailnaljchaaObjs76
import Derived.Test.YtagpailnaljchaaEq76
namespace Go.Proofs.Ytagpailnaljchaa
open Go.RowKit
set_option maxRecDepth 100000
set_option linter.unusedVariables false

set_option maxHeartbeats 400000 in
theorem bytes_eq (o0 : Option Addr) (n0 cap0 : Nat) (o1 : Option Addr) (n1 cap1 : Nat) (w : World) (h0 : n0 ≤ 9223372036854775807) (h1 : n1 ≤ 9223372036854775807) :
    Calls Try.prog 4 #[.slice o0 n0 cap0, .slice o1 n1 cap1] w fun e w' => e = .returned (.bool (decide (n0 + n1 ≤ 1048576))) ∧ w = w' := by
  go_enter Try.func4, Try.ntmps4
  go_wp2
  all_goals (go_ret; first | exact ⟨ret_t (by omega), rfl⟩ | exact ⟨ret_f (by omega), rfl⟩)

set_option maxHeartbeats 1000000 in
theorem same_any (oX oY : Option Addr) (cx cy n m : Nat) (xs ys : List Int) (B : Nat) (w : World) (hx : xs.length = n) (hy : ys.length = m) (hn : n ≤ 1048576) (hm : m ≤ 1048576) (hX : IntsAt w B oX xs) (hY : IntsAt w B oY ys) :
    Calls Try.prog 5 #[.slice oX n cx, .slice oY m cy] w (EqPost xs ys w) := by
  have HX := Lib.hid hx
  have HY := Lib.hid hy
  have HIX := Lib.hid hX
  have HIY := Lib.hid hY
  clear hx hy hX hY
  by_cases hnm : n = m
  rotate_left
  · have hne : xs ≠ ys := fun h => hnm (by rw [← HX.out, ← HY.out, h])
    have HE : Hid (decide (xs = ys) = false) := Lib.hid (decide_eq_false hne)
    have t1 : ((n : Int) != (m : Int)) = true := by simp; omega
    have t2 : (n != m) = true := by simpa using hnm
    clear hne hnm
    go_enter Try.func5, Try.ntmps5
    go_wp2
    go_ret
    exact ⟨by rw [HE.out]; rfl, Qt.refl _⟩
  subst hnm
  have t1 : ((n : Int) != (n : Int)) = false := by simp
  go_enter Try.func5, Try.ntmps5
  go_wp2
  go_loopw [5] (fun i wr => ∃ k : Nat, k ≤ n ∧ i = .int .i64 k ∧ xs.take k = ys.take k ∧ Qt w wr) (fun i _ => n - (intOf i).toNat)
  case atStart => exact ⟨0, Nat.zero_le _, rfl, by simp, Qt.refl _⟩
  case round =>
    obtain ⟨k, hk, rfl, htk, hq⟩ := hrel
    have HT := Lib.hid htk
    clear htk
    by_cases hlt : k < n
    · have tl : decide ((k : Int) < (n : Int)) = true := by simp; omega
      obtain ⟨b, ob, rfl, hb, hcb⟩ := HIX.out.at_ (by rw [HX.out]; omega)
      obtain ⟨d, od, rfl, hd, hcd⟩ := HIY.out.at_ (by rw [HY.out]; omega)
      have c1 := (hq.cell _).trans (hcb k (by rw [HX.out]; exact hlt))
      have c2 := (hq.cell _).trans (hcd k (by rw [HY.out]; exact hlt))
      have hxy : Hid (xs[k]'(by rw [HX.out]; exact hlt) = ys[k]'(by rw [HY.out]; exact hlt) → xs.take (k + 1) = ys.take (k + 1)) := Lib.hid (fun e => take_next _ _ HT.out e)
      have hxn : Hid (xs[k]'(by rw [HX.out]; exact hlt) ≠ ys[k]'(by rw [HY.out]; exact hlt) → xs ≠ ys) := Lib.hid (fun e h => e (by subst h; rfl))
      have HQ := Lib.hid hq
      clear hq hcb hcd
      generalize xs[k]'(by rw [HX.out]; exact hlt) = x at *
      generalize ys[k]'(by rw [HY.out]; exact hlt) = y at *
      by_cases exy : x = y
      · have HTN := Lib.hid (hxy.out exy)
        have hb : (x != y) = false := by simpa using exy
        clear hxy hxn exy
        go_wp2_with fail
        go_quiet (fail)
        go_wp2_with fail
        go_roundw
        case rel => exact ⟨k + 1, by omega, by go_num, HTN.out, HQ.out.drewN _⟩
        case measure => simp [intOf]; omega
      · have HE : Hid (decide (xs = ys) = false) := Lib.hid (decide_eq_false (hxn.out exy))
        have hb : (x != y) = true := by simpa using exy
        clear hxy hxn exy
        go_wp2_with fail
        go_quiet (fail)
        go_wp2_with fail
        go_ret
        exact ⟨by rw [HE.out]; rfl, HQ.out.drewN _⟩
    · obtain rfl : k = n := by omega
      have tl : decide ((k : Int) < (k : Int)) = false := by simp
      have HE : Hid (decide (xs = ys) = true) := Lib.hid (decide_eq_true (by have := HT.out; rw [List.take_of_length_le (by rw [HX.out]; omega), List.take_of_length_le (by rw [HY.out]; omega)] at this; exact this))
      have HQ := Lib.hid hq
      clear hq
      go_wp2_with fail
      go_ret
      exact ⟨by rw [HE.out]; rfl, HQ.out⟩

/-- an array object in memory -/
def ArrAt (w : World) (a b : Nat) (l : List Int) : Prop := w.cell? ⟨a, 0, none⟩ = some (.slice (some ⟨b, 0, none⟩) l.length l.length) ∧ ObjsAt w w.heap.size b l ∧ a < w.heap.size
theorem ArrAt.below {w w' : World} {a b : Nat} {l : List Int} (h : ArrAt w a b l) (hb : Below w.heap.size w w') : ArrAt w' a b l :=
  ⟨(hb.cell (p := ⟨a, 0, none⟩) h.2.2).trans h.1, (h.2.1.keep hb.block).more hb.size, Nat.lt_of_lt_of_le h.2.2 hb.size⟩
theorem ArrAt.mk' {w : World} {b : Nat} {l : List Int} (t : TypeId) (h : ObjsAt w w.heap.size b l) : ArrAt (w.alloc (.cells #[.slice (some ⟨b, 0, none⟩) l.length l.length] t)) w.heap.size b l :=
  ⟨by rw [(Blk.new w t _).cell]; rfl, (h.keep ((Below.refl w.heap.size w).alloc (Nat.le_refl _) _).block).more (by simp), by simp⟩
set_option maxHeartbeats 4000000 in
theorem law_eq (oX oY : Option Addr) (cx cy : Nat) (xs ys : List Int) (w : World) (hcx : xs.length ≤ cx) (hmx : cx ≤ maxLen) (hcy : ys.length ≤ cy) (hmy : cy ≤ maxLen) (hX : IntsAt w w.heap.size oX xs) (hY : IntsAt w w.heap.size oY ys) :
    Calls Try.prog 3 #[.slice oX xs.length cx, .slice oY ys.length cy] w fun e w' => e = .returned (.bool true) ∧ Below w.heap.size w w' := by
  have hlx : xs.length ≤ 9223372036854775807 := by simp only [maxLen] at hmx; omega
  have hly : ys.length ≤ 9223372036854775807 := by simp only [maxLen] at hmy; omega
  have HB := fun W => bytes_eq oX xs.length cx oY ys.length cy W hlx hly
  by_cases hb20 : xs.length + ys.length ≤ 1048576
  rotate_left
  · rw [decide_eq_false hb20] at HB
    clear hX hY hb20
    go_enter Try.func3, Try.ntmps3
    go_wp2_with (go_at_call 4; refine (HB _).mono ?_; rintro e w2 ⟨rfl, rfl⟩)
    go_ret
    exact ⟨rfl, Below.refl _ _⟩
  rw [decide_eq_true hb20] at HB
  by_cases h1 : 131072 < xs.length
  · have t1 : decide ((xs.length : Int) > 131072) = true := by simp; omega
    clear hX hY hb20
    go_enter Try.func3, Try.ntmps3
    go_wp2_with (go_at_call 4; refine (HB _).mono ?_; rintro e w2 ⟨rfl, rfl⟩)
    go_ret
    exact ⟨rfl, Below.refl _ _⟩
  have t1 : decide ((xs.length : Int) > 131072) = false := by simp; omega
  by_cases h2 : 131072 < ys.length
  · have t2 : decide ((ys.length : Int) > 131072) = true := by simp; omega
    clear hX hY hb20
    go_enter Try.func3, Try.ntmps3
    go_wp2_with (go_at_call 4; refine (HB _).mono ?_; rintro e w2 ⟨rfl, rfl⟩)
    go_ret
    exact ⟨rfl, Below.refl _ _⟩
  have t2 : decide ((ys.length : Int) > 131072) = false := by simp; omega
  by_cases h3 : 1048576 < xs.length * 8 + ys.length * 8
  · have t3 : decide ((xs.length : Int) * 8 + (ys.length : Int) * 8 > 1048576) = true := by simp; omega
    clear hX hY hb20
    go_enter Try.func3, Try.ntmps3
    go_wp2_with (go_at_call 4; refine (HB _).mono ?_; rintro e w2 ⟨rfl, rfl⟩)
    go_ret
    exact ⟨rfl, Below.refl _ _⟩
  have t3 : decide ((xs.length : Int) * 8 + (ys.length : Int) * 8 > 1048576) = false := by simp; omega
  have HSM := Lib.hid (same_any oX oY cx cy xs.length ys.length xs ys w.heap.size w rfl rfl (by omega) (by omega) hX hY)
  have HX := Lib.hid hX
  have HY := Lib.hid hY
  clear hX hY
  go_enter Try.func3, Try.ntmps3
  go_wp2_with first | (go_at_call 4; refine (HB _).mono ?_; rintro e w2 ⟨rfl, rfl⟩) | (go_at_call 5; refine Hid.out ?_)
  refine Lib.hid ?_
  refine HSM.out.mono ?_
  rintro e w1 ⟨rfl, hq1⟩
  have X1 := Lib.hid (HX.out.keep (fun k _ => hq1.block k))
  have Y1 := Lib.hid (HY.out.keep (fun k _ => hq1.block k))
  have B1 := Lib.hid (hq1.below w.heap.size)
  clear hq1 HSM HX HY HB
  go_wp2_with fail
  refine (objs_any oX cx xs w1 (X1.out.more B1.out.size) (by omega)).mono ?_
  rintro e w2 ⟨b2, rfl, hb2l, ho2, hb2⟩
  have A2 := Lib.hid (ArrAt.mk' 30 ho2)
  have B2a : Below w.heap.size w (w2.alloc (.cells #[.slice (some ⟨b2, 0, none⟩) xs.length xs.length] 30)) := (B1.out.trans (hb2.mono B1.out.size)).alloc (Nat.le_trans B1.out.size hb2.size) _
  have B2 := Lib.hid B2a
  have hz2 : w.heap.size ≤ w2.heap.size := Nat.le_trans B1.out.size hb2.size
  have Y2 := Lib.hid ((Y1.out.keep (fun k hk => ((B2a.block k hk).trans (B1.out.block k hk).symm))).more (Nat.le_trans hz2 (by simp : w2.heap.size ≤ (w2.alloc (.cells #[.slice (some ⟨b2, 0, none⟩) xs.length xs.length] 30)).heap.size)))
  clear ho2 hb2 B2a X1 Y1 B1
  go_wp2_with fail
  generalize (w2.alloc (.cells #[.slice (some ⟨b2, 0, none⟩) xs.length xs.length] 30)) = w3 at A2 B2 Y2 ⊢
  generalize w2.heap.size = a3 at *
  refine (objs_any oY cy ys w3 Y2.out (by omega)).mono ?_
  rintro e w4 ⟨b4, rfl, hb4l, ho4, hb4⟩
  have A4 := Lib.hid ((A2.out.below hb4).below ((Below.refl w4.heap.size w4).alloc (Nat.le_refl _) (.cells #[.slice (some ⟨b4, 0, none⟩) ys.length ys.length] 30)))
  have C4 := Lib.hid (ArrAt.mk' 30 ho4)
  have B4a : Below w3.heap.size w3 (w4.alloc (.cells #[.slice (some ⟨b4, 0, none⟩) ys.length ys.length] 30)) := hb4.alloc hb4.size _
  have B4 := Lib.hid (B2.out.trans (B4a.mono B2.out.size))
  have Y4 := Lib.hid ((Y2.out.keep B4a.block).more B4a.size)
  clear ho4 hb4 B4a A2 B2 Y2
  go_wp2_with fail
  generalize (w4.alloc (.cells #[.slice (some ⟨b4, 0, none⟩) ys.length ys.length] 30)) = w5 at A4 B4 Y4 C4 ⊢
  generalize w4.heap.size = a5 at *
  refine (objs_any oY cy ys w5 Y4.out (by omega)).mono ?_
  rintro e w6 ⟨b6, rfl, hb6l, ho6, hb6⟩
  have hbb := (Below.refl w6.heap.size w6).alloc (Nat.le_refl _) (.cells #[.slice (some ⟨b6, 0, none⟩) ys.length ys.length] 32)
  have A6 := Lib.hid ((A4.out.below hb6).below hbb)
  have C6 := Lib.hid ((C4.out.below hb6).below hbb)
  have D6 := Lib.hid (ArrAt.mk' 32 ho6)
  have B6 := Lib.hid (B4.out.trans ((hb6.alloc hb6.size (.cells #[.slice (some ⟨b6, 0, none⟩) ys.length ys.length] 32)).mono B4.out.size))
  clear ho6 hb6 hbb A4 B4 Y4 C4
  go_wp2_with fail
  generalize (w6.alloc (.cells #[.slice (some ⟨b6, 0, none⟩) ys.length ys.length] 32)) = w7 at A6 B6 C6 D6 ⊢
  generalize w6.heap.size = a7 at *
  have HE1 := fun W (h1 : ArrAt W a3 b2 xs) (h2 : ArrAt W a5 b4 ys) => arrEq_any 24 (Or.inl rfl) a3 b2 a5 b4 xs.length ys.length xs ys _ W rfl rfl (by omega) (by omega) h1.1 h2.1 h1.2.1 h2.2.1
  have HE2 := fun W (h1 : ArrAt W a5 b4 ys) (h2 : ArrAt W a3 b2 xs) => arrEq_any 24 (Or.inl rfl) a5 b4 a3 b2 ys.length xs.length ys xs _ W rfl rfl (by omega) (by omega) h1.1 h2.1 h1.2.1 h2.2.1
  have HE3 := fun W (h1 : ArrAt W a3 b2 xs) (h2 : ArrAt W a7 b6 ys) => arrEq_any 31 (Or.inr rfl) a3 b2 a7 b6 xs.length ys.length xs ys _ W rfl rfl (by omega) (by omega) h1.1 h2.1 h1.2.1 h2.2.1
  have hsym : decide (ys = xs) = decide (xs = ys) := by
    by_cases h : xs = ys
    · subst h; rfl
    · rw [decide_eq_false h, decide_eq_false (fun h2 => h h2.symm)]
  unfold EqPost at HE1 HE2 HE3
  rw [hsym] at HE2
  clear hsym
  generalize decide (xs = ys) = want at *
  have E1 := Lib.hid HE1
  have E2 := Lib.hid HE2
  have E3 := Lib.hid HE3
  clear HE1 HE2 HE3
  cases want
  all_goals
    refine (E1.out w7 A6.out C6.out).mono ?_
    rintro e w8 ⟨rfl, hq8⟩
    have hb8 := hq8.below w7.heap.size
    have A8 := Lib.hid (A6.out.below hb8)
    have C8 := Lib.hid (C6.out.below hb8)
    have D8 := Lib.hid (D6.out.below hb8)
    have B8 := Lib.hid (B6.out.trans (hb8.mono B6.out.size))
    clear hq8 hb8 A6 C6 D6 B6 E1
    go_wp2_with fail
    refine (E2.out w8 C8.out A8.out).mono ?_
    rintro e w9 ⟨rfl, hq9⟩
    have hb9 := hq9.below w8.heap.size
    have A9 := Lib.hid (A8.out.below hb9)
    have D9 := Lib.hid (D8.out.below hb9)
    have B9 := Lib.hid (B8.out.trans (hb9.mono B8.out.size))
    clear hq9 hb9 A8 C8 D8 B8 E2
    go_wp2_with fail
    refine (E3.out w9 A9.out D9.out).mono ?_
    rintro e w10 ⟨rfl, hq10⟩
    have B10 := Lib.hid (B9.out.trans ((hq10.below w9.heap.size).mono B9.out.size))
    clear hq10 A9 D9 B9 E3
    go_wp2_with fail
    go_ret
    exact ⟨rfl, B10.out⟩
end Go.Proofs.Ytagpailnaljchaa
