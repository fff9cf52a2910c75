/-
  The law's own decoder. Conditions: as stated.
-/
import Derived.Test.YtamfekpcoppbgaaFmtErrM
import Derived.Laws.MathBits
import Derived.Laws.BitsLemmas
import Derived.Lib.DecodeNEq
namespace Go.Proofs.YtamfekpcoppbgaaFmt
open Go.RowKit
set_option maxRecDepth 100000
set_option linter.unusedVariables false

def contB (c : Nat) : Bool := decide (128 ≤ c) && decide (c ≤ 191)
theorem zzcont_any (c : Nat) (hc : c < 256) (w : World) : Calls Tryf.prog 61 #[.int .i32 (c : Int)] w fun e w' => e = .returned (.bool (contB c)) ∧ w = w' := by
  by_cases h1 : 128 ≤ c
  · have t1 : decide ((c : Int) ≥ 128) = true := decide_eq_true (by omega)
    have e1 : contB c = decide ((c : Int) ≤ 191) := by
      unfold contB
      rw [decide_eq_true h1, Bool.true_and]
      exact decide_eq_decide.2 (by omega)
    rw [e1]
    clear e1
    go_enter Tryf.func61, Tryf.ntmps61
    go_wp2
    go_ret
    exact ⟨rfl, rfl⟩
  · have t1 : decide ((c : Int) ≥ 128) = false := decide_eq_false (by omega)
    have e1 : contB c = false := by
      unfold contB
      rw [decide_eq_false h1, Bool.false_and]
    rw [e1]
    clear e1
    go_enter Tryf.func61, Tryf.ntmps61
    go_wp2
    go_ret
    exact ⟨rfl, rfl⟩
theorem dec_low {n b0 b1 b2 b3 : Nat} (h : 128 ≤ b0) (h2 : b0 < 194 ∨ 244 < b0) (h3 : b0 < 256) (h4 : b1 < 256) (h5 : b2 < 256) (h6 : b3 < 256) : Lib.decodeN n b0 b1 b2 b3 = (65533, 1) := by
  unfold Lib.decodeN
  repeat' split
  all_goals first | rfl | (exfalso; omega)
def DecPost2 (p : Nat × Nat) (w : World) (e : Ending) (w' : World) : Prop := e = .returned (.tuple #[.int .i32 (p.1 : Int), .int .i64 (p.2 : Int)]) ∧ w = w'

set_option maxHeartbeats 2000000 in
theorem dec_a (b o cap n i : Nat) (c0 c1 c2 c3 : Nat) (w : World) (hi : i < n) (hn : n ≤ 1048576) (h0 : c0 < 256) (h1 : c1 < 256) (h2 : c2 < 256) (h3 : c3 < 256)
    (d0 : w.cell? ⟨b, o + i, none⟩ = some (.int .u8 (c0 : Int))) (d1 : i + 1 < n → w.cell? ⟨b, o + (i + 1), none⟩ = some (.int .u8 (c1 : Int))) (d2 : i + 2 < n → w.cell? ⟨b, o + (i + 2), none⟩ = some (.int .u8 (c2 : Int))) (d3 : i + 3 < n → w.cell? ⟨b, o + (i + 3), none⟩ = some (.int .u8 (c3 : Int))) (hc : c0 < 128) :
    Calls Tryf.prog 50 #[.slice (some ⟨b, o, none⟩) n cap, .int .i64 (i : Int)] w (DecPost2 (Lib.decodeN (n - i) c0 c1 c2 c3) w) := by
  have t0 : decide ((c0 : Int) < 128) = true := decide_eq_true (by omega)
  have e : Lib.decodeN (n - i) c0 c1 c2 c3 = (c0, 1) := by unfold Lib.decodeN; rw [if_pos hc]
  rw [e]
  clear e d1 d2 d3
  go_enter Tryf.func50, Tryf.ntmps50
  go_wp2
  go_ret2
  exact ⟨rfl, rfl⟩

set_option maxHeartbeats 2000000 in
theorem dec_b (b o cap n i : Nat) (c0 c1 c2 c3 : Nat) (w : World) (hi : i < n) (hn : n ≤ 1048576) (h0 : c0 < 256) (h1 : c1 < 256) (h2 : c2 < 256) (h3 : c3 < 256)
    (d0 : w.cell? ⟨b, o + i, none⟩ = some (.int .u8 (c0 : Int))) (d1 : i + 1 < n → w.cell? ⟨b, o + (i + 1), none⟩ = some (.int .u8 (c1 : Int))) (d2 : i + 2 < n → w.cell? ⟨b, o + (i + 2), none⟩ = some (.int .u8 (c2 : Int))) (d3 : i + 3 < n → w.cell? ⟨b, o + (i + 3), none⟩ = some (.int .u8 (c3 : Int))) (hc : 128 ≤ c0) (hc2 : c0 < 194 ∨ 244 < c0) :
    Calls Tryf.prog 50 #[.slice (some ⟨b, o, none⟩) n cap, .int .i64 (i : Int)] w (DecPost2 (Lib.decodeN (n - i) c0 c1 c2 c3) w) := by
  have t0 : decide ((c0 : Int) < 128) = false := decide_eq_false (by omega)
  rw [dec_low hc hc2 h0 h1 h2 h3]
  clear d1 d2 d3
  rcases hc2 with h | h
  · have t1 : decide ((c0 : Int) < 194) = true := decide_eq_true (by omega)
    go_enter Tryf.func50, Tryf.ntmps50
    go_wp2
    go_ret2
    exact ⟨rfl, rfl⟩
  · have t1 : decide ((c0 : Int) < 194) = false := decide_eq_false (by omega)
    have t2 : decide ((c0 : Int) > 244) = true := decide_eq_true (by omega)
    go_enter Tryf.func50, Tryf.ntmps50
    go_wp2
    go_ret2
    exact ⟨rfl, rfl⟩

theorem a31 (c : Nat) (h : c < 256) : bits .and .i32 (c : Int) 31 = ((c % 32 : Nat) : Int) := (show ∀ m : Fin 256, bits .and .i32 ((m.val : Nat) : Int) 31 = ((m.val % 32 : Nat) : Int) by decide +kernel) ⟨c, h⟩
theorem a63 (c : Nat) (h : c < 256) : bits .and .i32 (c : Int) 63 = ((c % 64 : Nat) : Int) := (show ∀ m : Fin 256, bits .and .i32 ((m.val : Nat) : Int) 63 = ((m.val % 64 : Nat) : Int) by decide +kernel) ⟨c, h⟩
theorem a15 (c : Nat) (h : c < 256) : bits .and .i32 (c : Int) 15 = ((c % 16 : Nat) : Int) := (show ∀ m : Fin 256, bits .and .i32 ((m.val : Nat) : Int) 15 = ((m.val % 16 : Nat) : Int) by decide +kernel) ⟨c, h⟩
theorem a7 (c : Nat) (h : c < 256) : bits .and .i32 (c : Int) 7 = ((c % 8 : Nat) : Int) := (show ∀ m : Fin 256, bits .and .i32 ((m.val : Nat) : Int) 7 = ((m.val % 8 : Nat) : Int) by decide +kernel) ⟨c, h⟩
theorem w32s (x : Int) (h0 : 0 ≤ x) (h1 : x < 2147483648) : wrap32 x = x := by
  unfold wrap32
  omega
theorem dv2 (c0 c1 : Nat) (h0 : c0 < 256) (h1 : c1 < 256) : bits .or .i32 (wrap32 (bits .and .i32 (c0 : Int) 31 * 64)) (bits .and .i32 (c1 : Int) 63) = ((c0 % 32 * 64 + c1 % 64 : Nat) : Int) := by
  rw [a31 c0 h0, a63 c1 h1, w32s _ (by omega) (by omega), i32_or6 _ _ (by omega) (by omega) (by omega) (by omega) (by omega)]
  omega
theorem dv3 (c0 c1 c2 : Nat) (h0 : c0 < 256) (h1 : c1 < 256) (h2 : c2 < 256) : bits .or .i32 (bits .or .i32 (wrap32 (bits .and .i32 (c0 : Int) 15 * 4096)) (wrap32 (bits .and .i32 (c1 : Int) 63 * 64))) (bits .and .i32 (c2 : Int) 63) = ((c0 % 16 * 4096 + c1 % 64 * 64 + c2 % 64 : Nat) : Int) := by
  rw [a15 c0 h0, a63 c1 h1, a63 c2 h2, w32s _ (by omega) (by omega), w32s _ (by omega) (by omega), i32_or12 (((c0 % 16 : Nat) : Int) * 4096) (((c1 % 64 : Nat) : Int) * 64) (by omega) (by omega) (by omega) (by omega) (by omega), i32_or6 _ _ (by omega) (by omega) (by omega) (by omega) (by omega)]
  omega
theorem dv4 (c0 c1 c2 c3 : Nat) (h0 : c0 < 256) (h1 : c1 < 256) (h2 : c2 < 256) (h3 : c3 < 256) : bits .or .i32 (bits .or .i32 (bits .or .i32 (wrap32 (bits .and .i32 (c0 : Int) 7 * 262144)) (wrap32 (bits .and .i32 (c1 : Int) 63 * 4096))) (wrap32 (bits .and .i32 (c2 : Int) 63 * 64))) (bits .and .i32 (c3 : Int) 63) = ((c0 % 8 * 262144 + c1 % 64 * 4096 + c2 % 64 * 64 + c3 % 64 : Nat) : Int) := by
  rw [a7 c0 h0, a63 c1 h1, a63 c2 h2, a63 c3 h3, w32s _ (by omega) (by omega), w32s _ (by omega) (by omega), w32s _ (by omega) (by omega), i32_or18 (((c0 % 8 : Nat) : Int) * 262144) (((c1 % 64 : Nat) : Int) * 4096) (by omega) (by omega) (by omega) (by omega) (by omega), i32_or12 (((c0 % 8 : Nat) : Int) * 262144 + ((c1 % 64 : Nat) : Int) * 4096) (((c2 % 64 : Nat) : Int) * 64) (by omega) (by omega) (by omega) (by omega) (by omega), i32_or6 _ _ (by omega) (by omega) (by omega) (by omega) (by omega)]
  omega
theorem dec_ret {p : Nat × Nat} {z n : Int} {w : World} (hz : z = (p.1 : Int)) (hn : n = (p.2 : Int)) : DecPost2 p w (.returned (.tuple #[.int .i32 z, .int .i64 n])) w := by
  rw [hz, hn]
  exact ⟨rfl, rfl⟩

set_option maxHeartbeats 2000000 in
theorem dec_c (b o cap n i : Nat) (c0 c1 c2 c3 : Nat) (w : World) (hi : i < n) (hn : n ≤ 1048576) (h0 : c0 < 256) (h1 : c1 < 256) (h2 : c2 < 256) (h3 : c3 < 256)
    (d0 : w.cell? ⟨b, o + i, none⟩ = some (.int .u8 (c0 : Int))) (d1 : i + 1 < n → w.cell? ⟨b, o + (i + 1), none⟩ = some (.int .u8 (c1 : Int))) (d2 : i + 2 < n → w.cell? ⟨b, o + (i + 2), none⟩ = some (.int .u8 (c2 : Int))) (d3 : i + 3 < n → w.cell? ⟨b, o + (i + 3), none⟩ = some (.int .u8 (c3 : Int))) (hc : 194 ≤ c0 ∧ c0 < 224) :
    Calls Tryf.prog 50 #[.slice (some ⟨b, o, none⟩) n cap, .int .i64 (i : Int)] w (DecPost2 (Lib.decodeN (n - i) c0 c1 c2 c3) w) := by
  have t0 : decide ((c0 : Int) < 128) = false := decide_eq_false (by omega)
  have t1 : decide ((c0 : Int) < 194) = false := decide_eq_false (by omega)
  have t2 : decide ((c0 : Int) > 244) = false := decide_eq_false (by omega)
  have t3 : decide ((c0 : Int) < 224) = true := decide_eq_true (by omega)
  rw [← Lib.slow_C2 (n - i) c0 c1 c2 c3 (by omega) h1 h2 h3 hc]
  unfold Lib.slowN
  clear d2 d3
  by_cases hs : n - i < 2
  · rw [if_pos hs]
    clear d1
    have t4 : decide ((n : Int) - (i : Int) < 2) = true := decide_eq_true (by omega)
    go_enter Tryf.func50, Tryf.ntmps50
    go_wp2_with fail
    go_ret2
    exact ⟨rfl, rfl⟩
  rw [if_neg hs]
  have t4 : decide ((n : Int) - (i : Int) < 2) = false := decide_eq_false (by omega)
  have d1' := d1 (by omega)
  clear d1
  have ix1 : ((i : Int) + 1).toNat = i + 1 := by omega
  by_cases hk : c1 < 128 ∨ 191 < c1
  · rw [if_pos hk]
    have k1 : contB c1 = false := by unfold contB; simp; omega
    have HK1 := fun W => zzcont_any c1 h1 W
    rw [k1] at HK1
    go_enter Tryf.func50, Tryf.ntmps50
    go_wp2_with (first | (go_at_call 61; refine (HK1 _).mono ?_; rintro e w2 ⟨rfl, rfl⟩))
    go_ret2
    exact ⟨rfl, rfl⟩
  rw [if_neg hk, if_pos (by omega)]
  have k1 : contB c1 = true := by unfold contB; simp; omega
  have HK1 := fun W => zzcont_any c1 h1 W
  rw [k1] at HK1
  go_enter Tryf.func50, Tryf.ntmps50
  go_wp2_with (first | (go_at_call 61; refine (HK1 _).mono ?_; rintro e w2 ⟨rfl, rfl⟩))
  go_ret2
  exact dec_ret (dv2 c0 c1 h0 h1) rfl

set_option maxHeartbeats 2000000 in
theorem dec_d0 (b o cap n i : Nat) (c0 c1 c2 c3 : Nat) (w : World) (hi : i < n) (hn : n ≤ 1048576) (h0 : c0 < 256) (h1 : c1 < 256) (h2 : c2 < 256) (h3 : c3 < 256)
    (d0 : w.cell? ⟨b, o + i, none⟩ = some (.int .u8 (c0 : Int))) (d1 : i + 1 < n → w.cell? ⟨b, o + (i + 1), none⟩ = some (.int .u8 (c1 : Int))) (d2 : i + 2 < n → w.cell? ⟨b, o + (i + 2), none⟩ = some (.int .u8 (c2 : Int))) (d3 : i + 3 < n → w.cell? ⟨b, o + (i + 3), none⟩ = some (.int .u8 (c3 : Int))) (hc : c0 = 224) :
    Calls Tryf.prog 50 #[.slice (some ⟨b, o, none⟩) n cap, .int .i64 (i : Int)] w (DecPost2 (Lib.decodeN (n - i) c0 c1 c2 c3) w) := by
  have t0 : decide ((c0 : Int) < 128) = false := decide_eq_false (by omega)
  have t1 : decide ((c0 : Int) < 194) = false := decide_eq_false (by omega)
  have t2 : decide ((c0 : Int) > 244) = false := decide_eq_false (by omega)
  have t3 : decide ((c0 : Int) < 224) = false := decide_eq_false (by omega)
  have t4 : decide ((c0 : Int) < 240) = true := decide_eq_true (by omega)
  have e0 : ((c0 : Int) == 224) = true := by simp; omega
  have e1 : ((c0 : Int) == 237) = false := by simp; omega
  rw [← Lib.slow_E0 (n - i) c0 c1 c2 c3 (by omega) h1 h2 h3 hc]
  unfold Lib.slowN
  clear hc
  clear d3
  by_cases hs : n - i < 3
  · rw [if_pos hs]
    clear d1 d2
    have t5 : decide ((n : Int) - (i : Int) < 3) = true := decide_eq_true (by omega)
    go_enter Tryf.func50, Tryf.ntmps50
    go_wp2_with fail
    go_ret2
    exact ⟨rfl, rfl⟩
  rw [if_neg hs]
  have t5 : decide ((n : Int) - (i : Int) < 3) = false := decide_eq_false (by omega)
  have d1' := d1 (by omega)
  have d2' := d2 (by omega)
  have ix1 : ((i : Int) + 1).toNat = i + 1 := by omega
  have ix2 : ((i : Int) + 2).toNat = i + 2 := by omega
  clear d1 d2
  by_cases hk : c1 < 160 ∨ 191 < c1
  · rw [if_pos hk]
    rcases hk with hk | hk
    · have u1 : decide ((c1 : Int) < 160) = true := decide_eq_true (by omega)
      go_enter Tryf.func50, Tryf.ntmps50
      go_wp2_with fail
      go_ret2
      exact ⟨rfl, rfl⟩
    · have u1 : decide ((c1 : Int) < 160) = false := decide_eq_false (by omega)
      have u2 : decide ((c1 : Int) > 191) = true := decide_eq_true (by omega)
      go_enter Tryf.func50, Tryf.ntmps50
      go_wp2_with fail
      go_ret2
      exact ⟨rfl, rfl⟩
  rw [if_neg hk, if_neg (by omega)]
  have u1 : decide ((c1 : Int) < 160) = false := decide_eq_false (by omega)
  have u2 : decide ((c1 : Int) > 191) = false := decide_eq_false (by omega)
  by_cases hk2 : c2 < 128 ∨ 191 < c2
  · rw [if_pos hk2]
    have k2 : contB c2 = false := by unfold contB; simp; omega
    have HK2 := fun W => zzcont_any c2 h2 W
    rw [k2] at HK2
    go_enter Tryf.func50, Tryf.ntmps50
    go_wp2_with (first | (go_at_call 61; refine (HK2 _).mono ?_; rintro e w2 ⟨rfl, rfl⟩))
    go_ret2
    exact ⟨rfl, rfl⟩
  rw [if_neg hk2]
  have k2 : contB c2 = true := by unfold contB; simp; omega
  have HK2 := fun W => zzcont_any c2 h2 W
  rw [k2] at HK2
  rw [if_pos (by omega)]
  go_enter Tryf.func50, Tryf.ntmps50
  go_wp2_with (first | (go_at_call 61; refine (HK2 _).mono ?_; rintro e w2 ⟨rfl, rfl⟩))
  go_ret2
  exact dec_ret (dv3 c0 c1 c2 h0 h1 h2) rfl

set_option maxHeartbeats 2000000 in
theorem dec_d1 (b o cap n i : Nat) (c0 c1 c2 c3 : Nat) (w : World) (hi : i < n) (hn : n ≤ 1048576) (h0 : c0 < 256) (h1 : c1 < 256) (h2 : c2 < 256) (h3 : c3 < 256)
    (d0 : w.cell? ⟨b, o + i, none⟩ = some (.int .u8 (c0 : Int))) (d1 : i + 1 < n → w.cell? ⟨b, o + (i + 1), none⟩ = some (.int .u8 (c1 : Int))) (d2 : i + 2 < n → w.cell? ⟨b, o + (i + 2), none⟩ = some (.int .u8 (c2 : Int))) (d3 : i + 3 < n → w.cell? ⟨b, o + (i + 3), none⟩ = some (.int .u8 (c3 : Int))) (hc : (225 ≤ c0 ∧ c0 < 237) ∨ (238 ≤ c0 ∧ c0 < 240)) :
    Calls Tryf.prog 50 #[.slice (some ⟨b, o, none⟩) n cap, .int .i64 (i : Int)] w (DecPost2 (Lib.decodeN (n - i) c0 c1 c2 c3) w) := by
  have t0 : decide ((c0 : Int) < 128) = false := decide_eq_false (by omega)
  have t1 : decide ((c0 : Int) < 194) = false := decide_eq_false (by omega)
  have t2 : decide ((c0 : Int) > 244) = false := decide_eq_false (by omega)
  have t3 : decide ((c0 : Int) < 224) = false := decide_eq_false (by omega)
  have t4 : decide ((c0 : Int) < 240) = true := decide_eq_true (by omega)
  have e0 : ((c0 : Int) == 224) = false := by simp; omega
  have e1 : ((c0 : Int) == 237) = false := by simp; omega
  rw [← Lib.slow_E1 (n - i) c0 c1 c2 c3 (by omega) h1 h2 h3 hc]
  unfold Lib.slowN
  clear hc
  clear d3
  by_cases hs : n - i < 3
  · rw [if_pos hs]
    clear d1 d2
    have t5 : decide ((n : Int) - (i : Int) < 3) = true := decide_eq_true (by omega)
    go_enter Tryf.func50, Tryf.ntmps50
    go_wp2_with fail
    go_ret2
    exact ⟨rfl, rfl⟩
  rw [if_neg hs]
  have t5 : decide ((n : Int) - (i : Int) < 3) = false := decide_eq_false (by omega)
  have d1' := d1 (by omega)
  have d2' := d2 (by omega)
  have ix1 : ((i : Int) + 1).toNat = i + 1 := by omega
  have ix2 : ((i : Int) + 2).toNat = i + 2 := by omega
  clear d1 d2
  by_cases hk : c1 < 128 ∨ 191 < c1
  · rw [if_pos hk]
    rcases hk with hk | hk
    · have u1 : decide ((c1 : Int) < 128) = true := decide_eq_true (by omega)
      go_enter Tryf.func50, Tryf.ntmps50
      go_wp2_with fail
      go_ret2
      exact ⟨rfl, rfl⟩
    · have u1 : decide ((c1 : Int) < 128) = false := decide_eq_false (by omega)
      have u2 : decide ((c1 : Int) > 191) = true := decide_eq_true (by omega)
      go_enter Tryf.func50, Tryf.ntmps50
      go_wp2_with fail
      go_ret2
      exact ⟨rfl, rfl⟩
  rw [if_neg hk, if_neg (by omega)]
  have u1 : decide ((c1 : Int) < 128) = false := decide_eq_false (by omega)
  have u2 : decide ((c1 : Int) > 191) = false := decide_eq_false (by omega)
  by_cases hk2 : c2 < 128 ∨ 191 < c2
  · rw [if_pos hk2]
    have k2 : contB c2 = false := by unfold contB; simp; omega
    have HK2 := fun W => zzcont_any c2 h2 W
    rw [k2] at HK2
    go_enter Tryf.func50, Tryf.ntmps50
    go_wp2_with (first | (go_at_call 61; refine (HK2 _).mono ?_; rintro e w2 ⟨rfl, rfl⟩))
    go_ret2
    exact ⟨rfl, rfl⟩
  rw [if_neg hk2]
  have k2 : contB c2 = true := by unfold contB; simp; omega
  have HK2 := fun W => zzcont_any c2 h2 W
  rw [k2] at HK2
  rw [if_pos (by omega)]
  go_enter Tryf.func50, Tryf.ntmps50
  go_wp2_with (first | (go_at_call 61; refine (HK2 _).mono ?_; rintro e w2 ⟨rfl, rfl⟩))
  go_ret2
  exact dec_ret (dv3 c0 c1 c2 h0 h1 h2) rfl

set_option maxHeartbeats 2000000 in
theorem dec_d2 (b o cap n i : Nat) (c0 c1 c2 c3 : Nat) (w : World) (hi : i < n) (hn : n ≤ 1048576) (h0 : c0 < 256) (h1 : c1 < 256) (h2 : c2 < 256) (h3 : c3 < 256)
    (d0 : w.cell? ⟨b, o + i, none⟩ = some (.int .u8 (c0 : Int))) (d1 : i + 1 < n → w.cell? ⟨b, o + (i + 1), none⟩ = some (.int .u8 (c1 : Int))) (d2 : i + 2 < n → w.cell? ⟨b, o + (i + 2), none⟩ = some (.int .u8 (c2 : Int))) (d3 : i + 3 < n → w.cell? ⟨b, o + (i + 3), none⟩ = some (.int .u8 (c3 : Int))) (hc : c0 = 237) :
    Calls Tryf.prog 50 #[.slice (some ⟨b, o, none⟩) n cap, .int .i64 (i : Int)] w (DecPost2 (Lib.decodeN (n - i) c0 c1 c2 c3) w) := by
  have t0 : decide ((c0 : Int) < 128) = false := decide_eq_false (by omega)
  have t1 : decide ((c0 : Int) < 194) = false := decide_eq_false (by omega)
  have t2 : decide ((c0 : Int) > 244) = false := decide_eq_false (by omega)
  have t3 : decide ((c0 : Int) < 224) = false := decide_eq_false (by omega)
  have t4 : decide ((c0 : Int) < 240) = true := decide_eq_true (by omega)
  have e0 : ((c0 : Int) == 224) = false := by simp; omega
  have e1 : ((c0 : Int) == 237) = true := by simp; omega
  rw [← Lib.slow_ED (n - i) c0 c1 c2 c3 (by omega) h1 h2 h3 hc]
  unfold Lib.slowN
  clear hc
  clear d3
  by_cases hs : n - i < 3
  · rw [if_pos hs]
    clear d1 d2
    have t5 : decide ((n : Int) - (i : Int) < 3) = true := decide_eq_true (by omega)
    go_enter Tryf.func50, Tryf.ntmps50
    go_wp2_with fail
    go_ret2
    exact ⟨rfl, rfl⟩
  rw [if_neg hs]
  have t5 : decide ((n : Int) - (i : Int) < 3) = false := decide_eq_false (by omega)
  have d1' := d1 (by omega)
  have d2' := d2 (by omega)
  have ix1 : ((i : Int) + 1).toNat = i + 1 := by omega
  have ix2 : ((i : Int) + 2).toNat = i + 2 := by omega
  clear d1 d2
  by_cases hk : c1 < 128 ∨ 159 < c1
  · rw [if_pos hk]
    rcases hk with hk | hk
    · have u1 : decide ((c1 : Int) < 128) = true := decide_eq_true (by omega)
      go_enter Tryf.func50, Tryf.ntmps50
      go_wp2_with fail
      go_ret2
      exact ⟨rfl, rfl⟩
    · have u1 : decide ((c1 : Int) < 128) = false := decide_eq_false (by omega)
      have u2 : decide ((c1 : Int) > 159) = true := decide_eq_true (by omega)
      go_enter Tryf.func50, Tryf.ntmps50
      go_wp2_with fail
      go_ret2
      exact ⟨rfl, rfl⟩
  rw [if_neg hk, if_neg (by omega)]
  have u1 : decide ((c1 : Int) < 128) = false := decide_eq_false (by omega)
  have u2 : decide ((c1 : Int) > 159) = false := decide_eq_false (by omega)
  by_cases hk2 : c2 < 128 ∨ 191 < c2
  · rw [if_pos hk2]
    have k2 : contB c2 = false := by unfold contB; simp; omega
    have HK2 := fun W => zzcont_any c2 h2 W
    rw [k2] at HK2
    go_enter Tryf.func50, Tryf.ntmps50
    go_wp2_with (first | (go_at_call 61; refine (HK2 _).mono ?_; rintro e w2 ⟨rfl, rfl⟩))
    go_ret2
    exact ⟨rfl, rfl⟩
  rw [if_neg hk2]
  have k2 : contB c2 = true := by unfold contB; simp; omega
  have HK2 := fun W => zzcont_any c2 h2 W
  rw [k2] at HK2
  rw [if_pos (by omega)]
  go_enter Tryf.func50, Tryf.ntmps50
  go_wp2_with (first | (go_at_call 61; refine (HK2 _).mono ?_; rintro e w2 ⟨rfl, rfl⟩))
  go_ret2
  exact dec_ret (dv3 c0 c1 c2 h0 h1 h2) rfl

set_option maxHeartbeats 2000000 in
theorem dec_e0 (b o cap n i : Nat) (c0 c1 c2 c3 : Nat) (w : World) (hi : i < n) (hn : n ≤ 1048576) (h0 : c0 < 256) (h1 : c1 < 256) (h2 : c2 < 256) (h3 : c3 < 256)
    (d0 : w.cell? ⟨b, o + i, none⟩ = some (.int .u8 (c0 : Int))) (d1 : i + 1 < n → w.cell? ⟨b, o + (i + 1), none⟩ = some (.int .u8 (c1 : Int))) (d2 : i + 2 < n → w.cell? ⟨b, o + (i + 2), none⟩ = some (.int .u8 (c2 : Int))) (d3 : i + 3 < n → w.cell? ⟨b, o + (i + 3), none⟩ = some (.int .u8 (c3 : Int))) (hc : c0 = 240) :
    Calls Tryf.prog 50 #[.slice (some ⟨b, o, none⟩) n cap, .int .i64 (i : Int)] w (DecPost2 (Lib.decodeN (n - i) c0 c1 c2 c3) w) := by
  have t0 : decide ((c0 : Int) < 128) = false := decide_eq_false (by omega)
  have t1 : decide ((c0 : Int) < 194) = false := decide_eq_false (by omega)
  have t2 : decide ((c0 : Int) > 244) = false := decide_eq_false (by omega)
  have t3 : decide ((c0 : Int) < 224) = false := decide_eq_false (by omega)
  have t4 : decide ((c0 : Int) < 240) = false := decide_eq_false (by omega)
  have e0 : ((c0 : Int) == 240) = true := by simp; omega
  have e1 : ((c0 : Int) == 244) = false := by simp; omega
  rw [← Lib.slow_F0 (n - i) c0 c1 c2 c3 (by omega) h1 h2 h3 hc]
  unfold Lib.slowN
  clear hc
  by_cases hs : n - i < 4
  · rw [if_pos hs]
    clear d1 d2 d3
    have t5 : decide ((n : Int) - (i : Int) < 4) = true := decide_eq_true (by omega)
    go_enter Tryf.func50, Tryf.ntmps50
    go_wp2_with fail
    go_ret2
    exact ⟨rfl, rfl⟩
  rw [if_neg hs]
  have t5 : decide ((n : Int) - (i : Int) < 4) = false := decide_eq_false (by omega)
  have d1' := d1 (by omega)
  have d2' := d2 (by omega)
  have ix1 : ((i : Int) + 1).toNat = i + 1 := by omega
  have ix2 : ((i : Int) + 2).toNat = i + 2 := by omega
  clear d1 d2
  have d3' := d3 (by omega)
  have ix3 : ((i : Int) + 3).toNat = i + 3 := by omega
  clear d3
  by_cases hk : c1 < 144 ∨ 191 < c1
  · rw [if_pos hk]
    rcases hk with hk | hk
    · have u1 : decide ((c1 : Int) < 144) = true := decide_eq_true (by omega)
      go_enter Tryf.func50, Tryf.ntmps50
      go_wp2_with fail
      go_ret2
      exact ⟨rfl, rfl⟩
    · have u1 : decide ((c1 : Int) < 144) = false := decide_eq_false (by omega)
      have u2 : decide ((c1 : Int) > 191) = true := decide_eq_true (by omega)
      go_enter Tryf.func50, Tryf.ntmps50
      go_wp2_with fail
      go_ret2
      exact ⟨rfl, rfl⟩
  rw [if_neg hk, if_neg (by omega)]
  have u1 : decide ((c1 : Int) < 144) = false := decide_eq_false (by omega)
  have u2 : decide ((c1 : Int) > 191) = false := decide_eq_false (by omega)
  by_cases hk2 : c2 < 128 ∨ 191 < c2
  · rw [if_pos hk2]
    have k2 : contB c2 = false := by unfold contB; simp; omega
    have HK2 := fun W => zzcont_any c2 h2 W
    rw [k2] at HK2
    go_enter Tryf.func50, Tryf.ntmps50
    go_wp2_with (first | (go_at_call 61; refine (HK2 _).mono ?_; rintro e w2 ⟨rfl, rfl⟩))
    go_ret2
    exact ⟨rfl, rfl⟩
  rw [if_neg hk2]
  have k2 : contB c2 = true := by unfold contB; simp; omega
  have HK2 := fun W => zzcont_any c2 h2 W
  rw [k2] at HK2
  rw [if_neg (by omega)]
  by_cases hk3 : c3 < 128 ∨ 191 < c3
  · rw [if_pos hk3]
    have k3 : contB c3 = false := by unfold contB; simp; omega
    have HK3 := fun W => zzcont_any c3 h3 W
    rw [k3] at HK3
    go_enter Tryf.func50, Tryf.ntmps50
    go_wp2_with (first | (go_at_call 61; refine (HK2 _).mono ?_; rintro e w2 ⟨rfl, rfl⟩) | (go_at_call 61; refine (HK3 _).mono ?_; rintro e w2 ⟨rfl, rfl⟩))
    go_ret2
    exact ⟨rfl, rfl⟩
  rw [if_neg hk3]
  have k3 : contB c3 = true := by unfold contB; simp; omega
  have HK3 := fun W => zzcont_any c3 h3 W
  rw [k3] at HK3
  go_enter Tryf.func50, Tryf.ntmps50
  go_wp2_with (first | (go_at_call 61; refine (HK2 _).mono ?_; rintro e w2 ⟨rfl, rfl⟩) | (go_at_call 61; refine (HK3 _).mono ?_; rintro e w2 ⟨rfl, rfl⟩))
  go_ret2
  exact dec_ret (dv4 c0 c1 c2 c3 h0 h1 h2 h3) rfl

set_option maxHeartbeats 2000000 in
theorem dec_e1 (b o cap n i : Nat) (c0 c1 c2 c3 : Nat) (w : World) (hi : i < n) (hn : n ≤ 1048576) (h0 : c0 < 256) (h1 : c1 < 256) (h2 : c2 < 256) (h3 : c3 < 256)
    (d0 : w.cell? ⟨b, o + i, none⟩ = some (.int .u8 (c0 : Int))) (d1 : i + 1 < n → w.cell? ⟨b, o + (i + 1), none⟩ = some (.int .u8 (c1 : Int))) (d2 : i + 2 < n → w.cell? ⟨b, o + (i + 2), none⟩ = some (.int .u8 (c2 : Int))) (d3 : i + 3 < n → w.cell? ⟨b, o + (i + 3), none⟩ = some (.int .u8 (c3 : Int))) (hc : 241 ≤ c0 ∧ c0 < 244) :
    Calls Tryf.prog 50 #[.slice (some ⟨b, o, none⟩) n cap, .int .i64 (i : Int)] w (DecPost2 (Lib.decodeN (n - i) c0 c1 c2 c3) w) := by
  have t0 : decide ((c0 : Int) < 128) = false := decide_eq_false (by omega)
  have t1 : decide ((c0 : Int) < 194) = false := decide_eq_false (by omega)
  have t2 : decide ((c0 : Int) > 244) = false := decide_eq_false (by omega)
  have t3 : decide ((c0 : Int) < 224) = false := decide_eq_false (by omega)
  have t4 : decide ((c0 : Int) < 240) = false := decide_eq_false (by omega)
  have e0 : ((c0 : Int) == 240) = false := by simp; omega
  have e1 : ((c0 : Int) == 244) = false := by simp; omega
  rw [← Lib.slow_F1 (n - i) c0 c1 c2 c3 (by omega) h1 h2 h3 hc]
  unfold Lib.slowN
  clear hc
  by_cases hs : n - i < 4
  · rw [if_pos hs]
    clear d1 d2 d3
    have t5 : decide ((n : Int) - (i : Int) < 4) = true := decide_eq_true (by omega)
    go_enter Tryf.func50, Tryf.ntmps50
    go_wp2_with fail
    go_ret2
    exact ⟨rfl, rfl⟩
  rw [if_neg hs]
  have t5 : decide ((n : Int) - (i : Int) < 4) = false := decide_eq_false (by omega)
  have d1' := d1 (by omega)
  have d2' := d2 (by omega)
  have ix1 : ((i : Int) + 1).toNat = i + 1 := by omega
  have ix2 : ((i : Int) + 2).toNat = i + 2 := by omega
  clear d1 d2
  have d3' := d3 (by omega)
  have ix3 : ((i : Int) + 3).toNat = i + 3 := by omega
  clear d3
  by_cases hk : c1 < 128 ∨ 191 < c1
  · rw [if_pos hk]
    rcases hk with hk | hk
    · have u1 : decide ((c1 : Int) < 128) = true := decide_eq_true (by omega)
      go_enter Tryf.func50, Tryf.ntmps50
      go_wp2_with fail
      go_ret2
      exact ⟨rfl, rfl⟩
    · have u1 : decide ((c1 : Int) < 128) = false := decide_eq_false (by omega)
      have u2 : decide ((c1 : Int) > 191) = true := decide_eq_true (by omega)
      go_enter Tryf.func50, Tryf.ntmps50
      go_wp2_with fail
      go_ret2
      exact ⟨rfl, rfl⟩
  rw [if_neg hk, if_neg (by omega)]
  have u1 : decide ((c1 : Int) < 128) = false := decide_eq_false (by omega)
  have u2 : decide ((c1 : Int) > 191) = false := decide_eq_false (by omega)
  by_cases hk2 : c2 < 128 ∨ 191 < c2
  · rw [if_pos hk2]
    have k2 : contB c2 = false := by unfold contB; simp; omega
    have HK2 := fun W => zzcont_any c2 h2 W
    rw [k2] at HK2
    go_enter Tryf.func50, Tryf.ntmps50
    go_wp2_with (first | (go_at_call 61; refine (HK2 _).mono ?_; rintro e w2 ⟨rfl, rfl⟩))
    go_ret2
    exact ⟨rfl, rfl⟩
  rw [if_neg hk2]
  have k2 : contB c2 = true := by unfold contB; simp; omega
  have HK2 := fun W => zzcont_any c2 h2 W
  rw [k2] at HK2
  rw [if_neg (by omega)]
  by_cases hk3 : c3 < 128 ∨ 191 < c3
  · rw [if_pos hk3]
    have k3 : contB c3 = false := by unfold contB; simp; omega
    have HK3 := fun W => zzcont_any c3 h3 W
    rw [k3] at HK3
    go_enter Tryf.func50, Tryf.ntmps50
    go_wp2_with (first | (go_at_call 61; refine (HK2 _).mono ?_; rintro e w2 ⟨rfl, rfl⟩) | (go_at_call 61; refine (HK3 _).mono ?_; rintro e w2 ⟨rfl, rfl⟩))
    go_ret2
    exact ⟨rfl, rfl⟩
  rw [if_neg hk3]
  have k3 : contB c3 = true := by unfold contB; simp; omega
  have HK3 := fun W => zzcont_any c3 h3 W
  rw [k3] at HK3
  go_enter Tryf.func50, Tryf.ntmps50
  go_wp2_with (first | (go_at_call 61; refine (HK2 _).mono ?_; rintro e w2 ⟨rfl, rfl⟩) | (go_at_call 61; refine (HK3 _).mono ?_; rintro e w2 ⟨rfl, rfl⟩))
  go_ret2
  exact dec_ret (dv4 c0 c1 c2 c3 h0 h1 h2 h3) rfl

set_option maxHeartbeats 2000000 in
theorem dec_e2 (b o cap n i : Nat) (c0 c1 c2 c3 : Nat) (w : World) (hi : i < n) (hn : n ≤ 1048576) (h0 : c0 < 256) (h1 : c1 < 256) (h2 : c2 < 256) (h3 : c3 < 256)
    (d0 : w.cell? ⟨b, o + i, none⟩ = some (.int .u8 (c0 : Int))) (d1 : i + 1 < n → w.cell? ⟨b, o + (i + 1), none⟩ = some (.int .u8 (c1 : Int))) (d2 : i + 2 < n → w.cell? ⟨b, o + (i + 2), none⟩ = some (.int .u8 (c2 : Int))) (d3 : i + 3 < n → w.cell? ⟨b, o + (i + 3), none⟩ = some (.int .u8 (c3 : Int))) (hc : c0 = 244) :
    Calls Tryf.prog 50 #[.slice (some ⟨b, o, none⟩) n cap, .int .i64 (i : Int)] w (DecPost2 (Lib.decodeN (n - i) c0 c1 c2 c3) w) := by
  have t0 : decide ((c0 : Int) < 128) = false := decide_eq_false (by omega)
  have t1 : decide ((c0 : Int) < 194) = false := decide_eq_false (by omega)
  have t2 : decide ((c0 : Int) > 244) = false := decide_eq_false (by omega)
  have t3 : decide ((c0 : Int) < 224) = false := decide_eq_false (by omega)
  have t4 : decide ((c0 : Int) < 240) = false := decide_eq_false (by omega)
  have e0 : ((c0 : Int) == 240) = false := by simp; omega
  have e1 : ((c0 : Int) == 244) = true := by simp; omega
  rw [← Lib.slow_F4 (n - i) c0 c1 c2 c3 (by omega) h1 h2 h3 hc]
  unfold Lib.slowN
  clear hc
  by_cases hs : n - i < 4
  · rw [if_pos hs]
    clear d1 d2 d3
    have t5 : decide ((n : Int) - (i : Int) < 4) = true := decide_eq_true (by omega)
    go_enter Tryf.func50, Tryf.ntmps50
    go_wp2_with fail
    go_ret2
    exact ⟨rfl, rfl⟩
  rw [if_neg hs]
  have t5 : decide ((n : Int) - (i : Int) < 4) = false := decide_eq_false (by omega)
  have d1' := d1 (by omega)
  have d2' := d2 (by omega)
  have ix1 : ((i : Int) + 1).toNat = i + 1 := by omega
  have ix2 : ((i : Int) + 2).toNat = i + 2 := by omega
  clear d1 d2
  have d3' := d3 (by omega)
  have ix3 : ((i : Int) + 3).toNat = i + 3 := by omega
  clear d3
  by_cases hk : c1 < 128 ∨ 143 < c1
  · rw [if_pos hk]
    rcases hk with hk | hk
    · have u1 : decide ((c1 : Int) < 128) = true := decide_eq_true (by omega)
      go_enter Tryf.func50, Tryf.ntmps50
      go_wp2_with fail
      go_ret2
      exact ⟨rfl, rfl⟩
    · have u1 : decide ((c1 : Int) < 128) = false := decide_eq_false (by omega)
      have u2 : decide ((c1 : Int) > 143) = true := decide_eq_true (by omega)
      go_enter Tryf.func50, Tryf.ntmps50
      go_wp2_with fail
      go_ret2
      exact ⟨rfl, rfl⟩
  rw [if_neg hk, if_neg (by omega)]
  have u1 : decide ((c1 : Int) < 128) = false := decide_eq_false (by omega)
  have u2 : decide ((c1 : Int) > 143) = false := decide_eq_false (by omega)
  by_cases hk2 : c2 < 128 ∨ 191 < c2
  · rw [if_pos hk2]
    have k2 : contB c2 = false := by unfold contB; simp; omega
    have HK2 := fun W => zzcont_any c2 h2 W
    rw [k2] at HK2
    go_enter Tryf.func50, Tryf.ntmps50
    go_wp2_with (first | (go_at_call 61; refine (HK2 _).mono ?_; rintro e w2 ⟨rfl, rfl⟩))
    go_ret2
    exact ⟨rfl, rfl⟩
  rw [if_neg hk2]
  have k2 : contB c2 = true := by unfold contB; simp; omega
  have HK2 := fun W => zzcont_any c2 h2 W
  rw [k2] at HK2
  rw [if_neg (by omega)]
  by_cases hk3 : c3 < 128 ∨ 191 < c3
  · rw [if_pos hk3]
    have k3 : contB c3 = false := by unfold contB; simp; omega
    have HK3 := fun W => zzcont_any c3 h3 W
    rw [k3] at HK3
    go_enter Tryf.func50, Tryf.ntmps50
    go_wp2_with (first | (go_at_call 61; refine (HK2 _).mono ?_; rintro e w2 ⟨rfl, rfl⟩) | (go_at_call 61; refine (HK3 _).mono ?_; rintro e w2 ⟨rfl, rfl⟩))
    go_ret2
    exact ⟨rfl, rfl⟩
  rw [if_neg hk3]
  have k3 : contB c3 = true := by unfold contB; simp; omega
  have HK3 := fun W => zzcont_any c3 h3 W
  rw [k3] at HK3
  go_enter Tryf.func50, Tryf.ntmps50
  go_wp2_with (first | (go_at_call 61; refine (HK2 _).mono ?_; rintro e w2 ⟨rfl, rfl⟩) | (go_at_call 61; refine (HK3 _).mono ?_; rintro e w2 ⟨rfl, rfl⟩))
  go_ret2
  exact dec_ret (dv4 c0 c1 c2 c3 h0 h1 h2 h3) rfl

theorem dec_all (b o cap n i : Nat) (c0 c1 c2 c3 : Nat) (w : World) (hi : i < n) (hn : n ≤ 1048576) (h0 : c0 < 256) (h1 : c1 < 256) (h2 : c2 < 256) (h3 : c3 < 256)
    (d0 : w.cell? ⟨b, o + i, none⟩ = some (.int .u8 (c0 : Int))) (d1 : i + 1 < n → w.cell? ⟨b, o + (i + 1), none⟩ = some (.int .u8 (c1 : Int))) (d2 : i + 2 < n → w.cell? ⟨b, o + (i + 2), none⟩ = some (.int .u8 (c2 : Int))) (d3 : i + 3 < n → w.cell? ⟨b, o + (i + 3), none⟩ = some (.int .u8 (c3 : Int))) :
    Calls Tryf.prog 50 #[.slice (some ⟨b, o, none⟩) n cap, .int .i64 (i : Int)] w (DecPost2 (Lib.decodeN (n - i) c0 c1 c2 c3) w) := by
  by_cases a : c0 < 128
  · exact dec_a b o cap n i c0 c1 c2 c3 w hi hn h0 h1 h2 h3 d0 d1 d2 d3 a
  by_cases b1 : c0 < 194 ∨ 244 < c0
  · exact dec_b b o cap n i c0 c1 c2 c3 w hi hn h0 h1 h2 h3 d0 d1 d2 d3 (by omega) b1
  by_cases b2 : c0 < 224
  · exact dec_c b o cap n i c0 c1 c2 c3 w hi hn h0 h1 h2 h3 d0 d1 d2 d3 ⟨by omega, b2⟩
  by_cases b3 : c0 = 224
  · exact dec_d0 b o cap n i c0 c1 c2 c3 w hi hn h0 h1 h2 h3 d0 d1 d2 d3 b3
  by_cases b4 : c0 = 237
  · exact dec_d2 b o cap n i c0 c1 c2 c3 w hi hn h0 h1 h2 h3 d0 d1 d2 d3 b4
  by_cases b5 : c0 < 240
  · exact dec_d1 b o cap n i c0 c1 c2 c3 w hi hn h0 h1 h2 h3 d0 d1 d2 d3 (by omega)
  by_cases b6 : c0 = 240
  · exact dec_e0 b o cap n i c0 c1 c2 c3 w hi hn h0 h1 h2 h3 d0 d1 d2 d3 b6
  by_cases b7 : c0 = 244
  · exact dec_e2 b o cap n i c0 c1 c2 c3 w hi hn h0 h1 h2 h3 d0 d1 d2 d3 b7
  exact dec_e1 b o cap n i c0 c1 c2 c3 w hi hn h0 h1 h2 h3 d0 d1 d2 d3 (by omega)
end Go.Proofs.YtamfekpcoppbgaaFmt
