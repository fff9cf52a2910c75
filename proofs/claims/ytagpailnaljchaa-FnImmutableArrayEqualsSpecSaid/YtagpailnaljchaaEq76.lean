/-
  Int.Equals and ImmutableArray.Equals over objects of type Int. Conditions: as stated.
-/
import Derived.Test.YtagpailnaljchaaI64
import Derived.Outline
namespace Go.Proofs.Ytagpailnaljchaa
open Go.RowKit
set_option maxRecDepth 100000
set_option linter.unusedVariables false

theorem ta_int (W : World) (a : Option Addr) : (Instr.typeAssert (.iface 34 (.pointer a)) 38 34 true).run Try.prog W = .ok (.tuple #[.pointer a, .bool true]) W := by kernel_rfl
theorem ta_arr (W : World) (a : Option Addr) : (Instr.typeAssert (.iface 31 (.pointer a)) 38 31 true).run Try.prog W = .ok (.tuple #[.pointer a, .bool true]) W := by kernel_rfl
theorem ta_imm (W : World) (a : Option Addr) : (Instr.typeAssert (.iface 24 (.pointer a)) 38 24 true).run Try.prog W = .ok (.tuple #[.pointer a, .bool true]) W := by kernel_rfl
theorem ta_imm_arr (W : World) (a : Option Addr) : (Instr.typeAssert (.iface 24 (.pointer a)) 38 31 true).run Try.prog W = .ok (.tuple #[.pointer none, .bool false]) W := by kernel_rfl
set_option maxHeartbeats 1000000 in
theorem intEq_any (p q : Nat) (x y : Int) (w : World) (h1 : w.cell? ⟨p, 0, none⟩ = some (.int .i64 x)) (h2 : w.cell? ⟨q, 0, none⟩ = some (.int .i64 y)) :
    Calls Try.prog 27 #[.pointer (some ⟨p, 0, none⟩), .iface 34 (.pointer (some ⟨q, 0, none⟩))] w fun e w' => e = .returned (.bool (x == y)) ∧ ∃ n, w' = w.drewN n := by
  have ta := ta_int
  go_enter Try.func27, Try.ntmps27
  go_wp2
  go_quiet (fail)
  go_wp2
  go_ret
  exact ⟨rfl, _, rfl⟩
theorem nil_ahead (a : Addr) (w : World) : (nilAhead 170 34 (.pointer (some a)) "Equals").run Try.prog w = .ok (some false) w := by kernel_rfl
theorem method_eq (a : Addr) (w : World) : (method 170 34 (.pointer (some a)) "Equals").run Try.prog w = .ok (27, .pointer (some a)) w := by kernel_rfl
def EqPost (xs ys : List Int) (w : World) (e : Ending) (w' : World) : Prop := e = .returned (.bool (decide (xs = ys))) ∧ Qt w w'
theorem take_snoc (l : List Int) (k : Nat) (h : k < l.length) : l.take (k + 1) = l.take k ++ [l[k]] := by rw [List.take_succ_eq_append_getElem h]
theorem take_next {xs ys : List Int} {k : Nat} (h1 : k < xs.length) (h2 : k < ys.length) (h : xs.take k = ys.take k) (e : xs[k] = ys[k]) : xs.take (k + 1) = ys.take (k + 1) := by rw [take_snoc xs k h1, take_snoc ys k h2, h, e]
set_option maxHeartbeats 4000000 in
theorem arrEq_any (t : TypeId) (ht : t = 24 ∨ t = 31) (a b c d n m : Nat) (xs ys : List Int) (B : Nat) (w : World) (hx : xs.length = n) (hy : ys.length = m) (hn : n ≤ 1048576) (hm : m ≤ 1048576)
    (ha : w.cell? ⟨a, 0, none⟩ = some (.slice (some ⟨b, 0, none⟩) n n)) (hc : w.cell? ⟨c, 0, none⟩ = some (.slice (some ⟨d, 0, none⟩) m m)) (hox : ObjsAt w B b xs) (hoy : ObjsAt w B d ys) :
    Calls Try.prog 7 #[.pointer (some ⟨a, 0, none⟩), .iface t (.pointer (some ⟨c, 0, none⟩))] w (EqPost xs ys w) := by
  have HX := Lib.hid hx
  have HY := Lib.hid hy
  have HOX := Lib.hid hox
  have HOY := Lib.hid hoy
  clear hx hy hox hoy
  have ta1 := ta_arr
  have ta2 := ta_imm
  have ta3 := ta_imm_arr
  by_cases hnm : n = m
  rotate_left
  · have hne : xs ≠ ys := fun h => hnm (by rw [← HX.out, ← HY.out, h])
    have HE : Hid (decide (xs = ys) = false) := Lib.hid (decide_eq_false hne)
    have t1 : ((n : Int) != (m : Int)) = true := by simp; omega
    have t2 : (n != m) = true := by simpa using hnm
    have t3 : (n == m) = false := by simpa using hnm
    clear hne hnm
    rcases ht with rfl | rfl
    all_goals
      go_enter Try.func7, Try.ntmps7
      go_wp2
      go_ret
      exact ⟨by rw [HE.out]; rfl, Qt.refl _⟩
  subst hnm
  have t1 : ((n : Int) != (n : Int)) = false := by simp
  rcases ht with rfl | rfl
  all_goals
    go_enter Try.func7, Try.ntmps7
    go_wp2
    go_loopw [39] (fun i wr => ∃ k : Nat, k ≤ n ∧ i = .int .i64 k ∧ xs.take k = ys.take k ∧ Qt w wr) (fun i _ => n - (intOf i).toNat)
    case atStart => exact ⟨0, Nat.zero_le _, rfl, by simp, Qt.refl _⟩
    case round =>
      obtain ⟨k, hk, rfl, htk, hq⟩ := hrel
      have HT := Lib.hid htk
      clear htk
      by_cases hlt : k < n
      · have tl : decide ((k : Int) < (n : Int)) = true := by simp; omega
        obtain ⟨p, hp, e1, e2⟩ := HOX.out.2 k (by rw [HX.out]; exact hlt)
        obtain ⟨q, hqb, e3, e4⟩ := HOY.out.2 k (by rw [HY.out]; exact hlt)
        have c1 := (hq.cell _).trans e1
        have c2 := (hq.cell _).trans e2
        have c3 := (hq.cell _).trans e3
        have c4 := (hq.cell _).trans e4
        have hxy : Hid (xs[k]'(by rw [HX.out]; exact hlt) = ys[k]'(by rw [HY.out]; exact hlt) → xs.take (k + 1) = ys.take (k + 1)) := Lib.hid (fun e => take_next _ _ HT.out e)
        have hxn : Hid (xs[k]'(by rw [HX.out]; exact hlt) ≠ ys[k]'(by rw [HY.out]; exact hlt) → xs ≠ ys) := Lib.hid (fun e h => e (by subst h; rfl))
        have HQ := Lib.hid hq
        clear hq e1 e2 e3 e4
        generalize xs[k]'(by rw [HX.out]; exact hlt) = x at *
        generalize ys[k]'(by rw [HY.out]; exact hlt) = y at *
        have hna := nil_ahead
        have hme := method_eq
        by_cases exy : x = y
        · have HTN := Lib.hid (hxy.out exy)
          have hb : (x == y) = true := by simpa using exy
          have HC : Hid (∀ W, W.cell? ⟨p, 0, none⟩ = some (.int .i64 x) → W.cell? ⟨q, 0, none⟩ = some (.int .i64 y) → Calls Try.prog 27 #[.pointer (some ⟨p, 0, none⟩), .iface 34 (.pointer (some ⟨q, 0, none⟩))] W fun e w' => e = .returned (.bool true) ∧ ∃ n, w' = W.drewN n) := Lib.hid (fun W g1 g2 => by have := intEq_any p q x y W g1 g2; rw [hb] at this; exact this)
          clear hxy hxn exy hb
          go_wp2_with fail
          go_quiet ((go_at_call 27; exact Calls.quiet_of (HC.out _ (by simpa using c2) (by simpa using c4))))
          go_wp2_with fail
          go_roundw
          case rel => exact ⟨k + 1, by omega, by go_num, HTN.out, HQ.out.drewN _⟩
          case measure => simp [intOf]; omega
        · have HE : Hid (decide (xs = ys) = false) := Lib.hid (decide_eq_false (hxn.out exy))
          have hb : (x == y) = false := by simpa using exy
          have HC : Hid (∀ W, W.cell? ⟨p, 0, none⟩ = some (.int .i64 x) → W.cell? ⟨q, 0, none⟩ = some (.int .i64 y) → Calls Try.prog 27 #[.pointer (some ⟨p, 0, none⟩), .iface 34 (.pointer (some ⟨q, 0, none⟩))] W fun e w' => e = .returned (.bool false) ∧ ∃ n, w' = W.drewN n) := Lib.hid (fun W g1 g2 => by have := intEq_any p q x y W g1 g2; rw [hb] at this; exact this)
          clear hxy hxn exy hb
          go_wp2_with fail
          go_quiet ((go_at_call 27; exact Calls.quiet_of (HC.out _ (by simpa using c2) (by simpa using c4))))
          go_wp2_with fail
          go_ret
          exact ⟨by rw [HE.out]; rfl, HQ.out.drewN _⟩
      · obtain rfl : k = n := by omega
        have tl : decide ((k : Int) < (k : Int)) = false := by simp
        have HE : Hid (decide (xs = ys) = true) := Lib.hid (decide_eq_true (by have := HT.out; rw [List.take_of_length_le (by rw [HX.out]; omega), List.take_of_length_le (by rw [HY.out]; omega)] at this; exact this))
        have HQ := Lib.hid hq
        clear hq
        go_wp2_with fail
        go_ret
        exact ⟨by rw [HE.out]; rfl, HQ.out⟩
end Go.Proofs.Ytagpailnaljchaa
