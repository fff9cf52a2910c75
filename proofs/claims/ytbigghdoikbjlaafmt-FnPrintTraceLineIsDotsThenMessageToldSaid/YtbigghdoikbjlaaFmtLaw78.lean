/-
  The laws over printTrace. Conditions: fmt is told by the kit's own function.
-/
import Derived.Test.YtbigghdoikbjlaaFmtZt78
namespace Go.Proofs.YtbigghdoikbjlaaFmt
open Go.RowKit
open Go.Extern.Stop Go.Stop Go.Extern
set_option maxRecDepth 100000
set_option linter.unusedVariables false

theorem cat_list (a b : List UInt8) : (⟨a.toArray⟩ : ByteArray) ++ ⟨b.toArray⟩ = ⟨(a ++ b).toArray⟩ := by
  apply ByteArray.ext
  simp

set_option maxHeartbeats 1000000 in
theorem bytes_law_one (s : List UInt8) (a : Int) (w : World) (h0 : s.length ≤ 9223372036854775807) :
    Calls Tryf.prog 5 #[.int .i64 a, .string ⟨s.toArray⟩] w fun e w' => e = .returned (.bool (decide (s.length ≤ 1048576))) ∧ w = w' := by
  go_enter Tryf.func5, Tryf.ntmps5
  go_wp2
  all_goals (go_ret; first | exact ⟨ret_t (by omega), rfl⟩ | exact ⟨ret_f (by omega), rfl⟩)
set_option maxHeartbeats 4000000 in
theorem law_one (I : Interp) (n : Int) (s : List UInt8) (w : World) (hF : I.told.answers w.tape) (hw : (Lit.int .i64 n).wf = true) (h0 : s.length ≤ 9223372036854775807) :
    Calls Tryf.prog 3 #[.int .i64 n, .string ⟨s.toArray⟩] w fun e w' => e = .returned (.bool true) ∧ Below w.heap.size w w' := by
  have HB := fun W => bytes_law_one s n W h0
  by_cases hb20 : s.length ≤ 1048576
  rotate_left
  · rw [decide_eq_false hb20] at HB
    go_enter Tryf.func3, Tryf.ntmps3
    go_wp2_with (go_at_call 5; refine (HB _).mono ?_; rintro e w2 ⟨rfl, rfl⟩)
    go_ret
    exact ⟨rfl, Below.refl _ _⟩
  rw [decide_eq_true hb20] at HB
  have hwb : -9223372036854775808 ≤ n ∧ n ≤ 9223372036854775807 := by
    simpa [Lit.wf, IntKind.min, IntKind.max, IntKind.signed, IntKind.bits, Bool.and_eq_true, decide_eq_true_eq] using hw
  have k20 : (s.length : Int) ≤ 1048576 := by omega
  have HF := Lib.hid hF
  clear hF hw
  by_cases hn0 : n < 0
  · go_enter Tryf.func3, Tryf.ntmps3
    go_wp2_with (go_at_call 5; refine (HB _).mono ?_; rintro e w2 ⟨rfl, rfl⟩)
    go_ret
    exact ⟨rfl, Below.refl _ _⟩
  by_cases hn6 : 65536 < n
  · go_enter Tryf.func3, Tryf.ntmps3
    go_wp2_with (go_at_call 5; refine (HB _).mono ?_; rintro e w2 ⟨rfl, rfl⟩)
    go_ret
    exact ⟨rfl, Below.refl _ _⟩
  obtain ⟨m, rfl⟩ : ∃ m : Nat, n = (m : Int) := ⟨n.toNat, by omega⟩
  have hm : m ≤ 65536 := by omega
  have HZ := fun W (h : I.told.answers W.tape) => z1_any I m s W h hm hb20
  have HD := fun W => dot_any m hm W
  obtain ⟨L, hL⟩ : ∃ L, dotL m = L := ⟨_, rfl⟩
  have hLl : L.length = 2 * m := by rw [← hL, dotL_len]
  have hL2 : L.length ≤ 131072 := by omega
  rw [hL] at HZ HD
  clear hL hLl
  go_enter Tryf.func3, Tryf.ntmps3
  go_wp2_with first | (go_at_call 5; refine (HB _).mono ?_; rintro e w2 ⟨rfl, rfl⟩) | (go_at_call 6; refine (HZ _ (by exact HF.out)).mono ?_; rintro e w3 ⟨rfl, hb3⟩; have B3 := Lib.hid hb3; clear hb3 HZ HB) | (go_at_call 7; refine (HD _).mono ?_; rintro e w4 ⟨rfl, hb4⟩; have B4 := Lib.hid (B3.out.trans (hb4.mono B3.out.size)); clear hb4 HD)
  go_ret
  refine ⟨?_, B4.out⟩
  simp [cat_list]


set_option maxHeartbeats 1000000 in
theorem bytes_law_two (s u : List UInt8) (a : Int) (w : World) (h0 : s.length ≤ 9223372036854775807) (h1 : u.length ≤ 9223372036854775807) :
    Calls Tryf.prog 8 #[.int .i64 a, .string ⟨s.toArray⟩, .string ⟨u.toArray⟩] w fun e w' => e = .returned (.bool (decide (s.length ≤ 1048576 ∧ s.length + u.length ≤ 1048576))) ∧ w = w' := by
  go_enter Tryf.func8, Tryf.ntmps8
  go_wp2
  all_goals (go_ret; first | exact ⟨ret_t (by omega), rfl⟩ | exact ⟨ret_f (by omega), rfl⟩)
set_option maxHeartbeats 4000000 in
theorem law_two (I : Interp) (n : Int) (s u : List UInt8) (w : World) (hF : I.told.answers w.tape) (hw : (Lit.int .i64 n).wf = true) (h0 : s.length ≤ 9223372036854775807) (h1 : u.length ≤ 9223372036854775807) :
    Calls Tryf.prog 4 #[.int .i64 n, .string ⟨s.toArray⟩, .string ⟨u.toArray⟩] w fun e w' => e = .returned (.bool true) ∧ Below w.heap.size w w' := by
  have HB := fun W => bytes_law_two s u n W h0 h1
  by_cases hb20 : s.length ≤ 1048576 ∧ s.length + u.length ≤ 1048576
  rotate_left
  · rw [decide_eq_false hb20] at HB
    go_enter Tryf.func4, Tryf.ntmps4
    go_wp2_with (go_at_call 8; refine (HB _).mono ?_; rintro e w2 ⟨rfl, rfl⟩)
    go_ret
    exact ⟨rfl, Below.refl _ _⟩
  rw [decide_eq_true hb20] at HB
  have hwb : -9223372036854775808 ≤ n ∧ n ≤ 9223372036854775807 := by
    simpa [Lit.wf, IntKind.min, IntKind.max, IntKind.signed, IntKind.bits, Bool.and_eq_true, decide_eq_true_eq] using hw
  have k20 : (s.length : Int) ≤ 1048576 := by omega
  have HF := Lib.hid hF
  clear hF hw
  by_cases hq : s.length > 524288
  · have q1 : (524288 : Int) < (s.length : Int) := by omega
    go_enter Tryf.func4, Tryf.ntmps4
    go_wp2_with (go_at_call 8; refine (HB _).mono ?_; rintro e w2 ⟨rfl, rfl⟩)
    go_ret
    exact ⟨rfl, Below.refl _ _⟩
  have q1 : (s.length : Int) ≤ 524288 := by omega
  by_cases hq2 : u.length > 524288
  · have q2 : (524288 : Int) < (u.length : Int) := by omega
    go_enter Tryf.func4, Tryf.ntmps4
    go_wp2_with (go_at_call 8; refine (HB _).mono ?_; rintro e w2 ⟨rfl, rfl⟩)
    go_ret
    exact ⟨rfl, Below.refl _ _⟩
  have q2 : (u.length : Int) ≤ 524288 := by omega
  by_cases hn0 : n < 0
  · go_enter Tryf.func4, Tryf.ntmps4
    go_wp2_with (go_at_call 8; refine (HB _).mono ?_; rintro e w2 ⟨rfl, rfl⟩)
    go_ret
    exact ⟨rfl, Below.refl _ _⟩
  by_cases hn6 : 65536 < n
  · go_enter Tryf.func4, Tryf.ntmps4
    go_wp2_with (go_at_call 8; refine (HB _).mono ?_; rintro e w2 ⟨rfl, rfl⟩)
    go_ret
    exact ⟨rfl, Below.refl _ _⟩
  obtain ⟨m, rfl⟩ : ∃ m : Nat, n = (m : Int) := ⟨n.toNat, by omega⟩
  have hm : m ≤ 65536 := by omega
  have HZ := fun W (h : I.told.answers W.tape) => z2_any I m s u W h hm (by omega) (by omega)
  have HD := fun W => dot_any m hm W
  obtain ⟨L, hL⟩ : ∃ L, dotL m = L := ⟨_, rfl⟩
  have hLl : L.length = 2 * m := by rw [← hL, dotL_len]
  have hL2 : L.length ≤ 131072 := by omega
  rw [hL] at HZ HD
  clear hL hLl
  go_enter Tryf.func4, Tryf.ntmps4
  go_wp2_with first | (go_at_call 8; refine (HB _).mono ?_; rintro e w2 ⟨rfl, rfl⟩) | (go_at_call 9; refine (HZ _ (by exact HF.out)).mono ?_; rintro e w3 ⟨rfl, hb3⟩; have B3 := Lib.hid hb3; clear hb3 HZ HB) | (go_at_call 7; refine (HD _).mono ?_; rintro e w4 ⟨rfl, hb4⟩; have B4 := Lib.hid (B3.out.trans (hb4.mono B3.out.size)); clear hb4 HD)
  go_ret
  refine ⟨?_, B4.out⟩
  simp [cat_list]

end Go.Proofs.YtbigghdoikbjlaaFmt
