/-
  zzOp, zzIdent, and String of one binary node. Conditions: as stated.
-/
import Derived.Test.YtpdfoofjnoegpaaDoorArgs79
namespace Go.Proofs.YtpdfoofjnoegpaaDoor
open Go.RowKit
set_option maxRecDepth 100000
set_option linter.unusedVariables false

def opTks : List Nat := [11, 12, 13, 14, 15, 16, 17, 18, 19, 20, 21, 33, 34, 37, 42, 38, 39, 43, 44]
def opSts : List (List UInt8) := [[43], [45], [42], [47], [37], [38], [124], [94], [60, 60], [62, 62], [38, 94], [38, 38], [124, 124], [61, 61], [33, 61], [60], [62], [60, 61], [62, 61]]
def opIx (k : Int) : Nat := (if k.tmod 19 < 0 then k.tmod 19 + 19 else k.tmod 19).toNat
def opTk (k : Int) : Nat := opTks.getD (opIx k) 0
def opSt (k : Int) : List UInt8 := opSts.getD (opIx k) []
theorem opIx_lt (k : Int) : opIx k < 19 := by
  have h1 := Int.tmod_lt_of_pos k (show (0 : Int) < 19 by decide)
  have h2 := Int.lt_tmod_of_pos k (show (0 : Int) < 19 by decide)
  unfold opIx
  split <;> omega
set_option maxHeartbeats 400000 in
theorem zzOp_m18 (k : Int) (w : World) (hr : k.tmod 19 = -18) : Calls Tryd.prog 9 #[.int .i64 k] w fun e w' => e = .returned (.tuple #[.int .i64 (opTk k : Int), .string ⟨(opSt k).toArray⟩]) ∧ w = w' := by
  have e1 : opTk k = 12 := by unfold opTk opIx; rw [hr]; rfl
  have e2 : opSt k = [45] := by unfold opSt opIx; rw [hr]; rfl
  rw [e1, e2]
  clear e1 e2
  go_enter Tryd.func9, Tryd.ntmps9
  go_wp2
  go_ret2
  exact ⟨rfl, rfl⟩
set_option maxHeartbeats 400000 in
theorem zzOp_m17 (k : Int) (w : World) (hr : k.tmod 19 = -17) : Calls Tryd.prog 9 #[.int .i64 k] w fun e w' => e = .returned (.tuple #[.int .i64 (opTk k : Int), .string ⟨(opSt k).toArray⟩]) ∧ w = w' := by
  have e1 : opTk k = 13 := by unfold opTk opIx; rw [hr]; rfl
  have e2 : opSt k = [42] := by unfold opSt opIx; rw [hr]; rfl
  rw [e1, e2]
  clear e1 e2
  go_enter Tryd.func9, Tryd.ntmps9
  go_wp2
  go_ret2
  exact ⟨rfl, rfl⟩
set_option maxHeartbeats 400000 in
theorem zzOp_m16 (k : Int) (w : World) (hr : k.tmod 19 = -16) : Calls Tryd.prog 9 #[.int .i64 k] w fun e w' => e = .returned (.tuple #[.int .i64 (opTk k : Int), .string ⟨(opSt k).toArray⟩]) ∧ w = w' := by
  have e1 : opTk k = 14 := by unfold opTk opIx; rw [hr]; rfl
  have e2 : opSt k = [47] := by unfold opSt opIx; rw [hr]; rfl
  rw [e1, e2]
  clear e1 e2
  go_enter Tryd.func9, Tryd.ntmps9
  go_wp2
  go_ret2
  exact ⟨rfl, rfl⟩
set_option maxHeartbeats 400000 in
theorem zzOp_m15 (k : Int) (w : World) (hr : k.tmod 19 = -15) : Calls Tryd.prog 9 #[.int .i64 k] w fun e w' => e = .returned (.tuple #[.int .i64 (opTk k : Int), .string ⟨(opSt k).toArray⟩]) ∧ w = w' := by
  have e1 : opTk k = 15 := by unfold opTk opIx; rw [hr]; rfl
  have e2 : opSt k = [37] := by unfold opSt opIx; rw [hr]; rfl
  rw [e1, e2]
  clear e1 e2
  go_enter Tryd.func9, Tryd.ntmps9
  go_wp2
  go_ret2
  exact ⟨rfl, rfl⟩
set_option maxHeartbeats 400000 in
theorem zzOp_m14 (k : Int) (w : World) (hr : k.tmod 19 = -14) : Calls Tryd.prog 9 #[.int .i64 k] w fun e w' => e = .returned (.tuple #[.int .i64 (opTk k : Int), .string ⟨(opSt k).toArray⟩]) ∧ w = w' := by
  have e1 : opTk k = 16 := by unfold opTk opIx; rw [hr]; rfl
  have e2 : opSt k = [38] := by unfold opSt opIx; rw [hr]; rfl
  rw [e1, e2]
  clear e1 e2
  go_enter Tryd.func9, Tryd.ntmps9
  go_wp2
  go_ret2
  exact ⟨rfl, rfl⟩
set_option maxHeartbeats 400000 in
theorem zzOp_m13 (k : Int) (w : World) (hr : k.tmod 19 = -13) : Calls Tryd.prog 9 #[.int .i64 k] w fun e w' => e = .returned (.tuple #[.int .i64 (opTk k : Int), .string ⟨(opSt k).toArray⟩]) ∧ w = w' := by
  have e1 : opTk k = 17 := by unfold opTk opIx; rw [hr]; rfl
  have e2 : opSt k = [124] := by unfold opSt opIx; rw [hr]; rfl
  rw [e1, e2]
  clear e1 e2
  go_enter Tryd.func9, Tryd.ntmps9
  go_wp2
  go_ret2
  exact ⟨rfl, rfl⟩
set_option maxHeartbeats 400000 in
theorem zzOp_m12 (k : Int) (w : World) (hr : k.tmod 19 = -12) : Calls Tryd.prog 9 #[.int .i64 k] w fun e w' => e = .returned (.tuple #[.int .i64 (opTk k : Int), .string ⟨(opSt k).toArray⟩]) ∧ w = w' := by
  have e1 : opTk k = 18 := by unfold opTk opIx; rw [hr]; rfl
  have e2 : opSt k = [94] := by unfold opSt opIx; rw [hr]; rfl
  rw [e1, e2]
  clear e1 e2
  go_enter Tryd.func9, Tryd.ntmps9
  go_wp2
  go_ret2
  exact ⟨rfl, rfl⟩
set_option maxHeartbeats 400000 in
theorem zzOp_m11 (k : Int) (w : World) (hr : k.tmod 19 = -11) : Calls Tryd.prog 9 #[.int .i64 k] w fun e w' => e = .returned (.tuple #[.int .i64 (opTk k : Int), .string ⟨(opSt k).toArray⟩]) ∧ w = w' := by
  have e1 : opTk k = 19 := by unfold opTk opIx; rw [hr]; rfl
  have e2 : opSt k = [60, 60] := by unfold opSt opIx; rw [hr]; rfl
  rw [e1, e2]
  clear e1 e2
  go_enter Tryd.func9, Tryd.ntmps9
  go_wp2
  go_ret2
  exact ⟨rfl, rfl⟩
set_option maxHeartbeats 400000 in
theorem zzOp_m10 (k : Int) (w : World) (hr : k.tmod 19 = -10) : Calls Tryd.prog 9 #[.int .i64 k] w fun e w' => e = .returned (.tuple #[.int .i64 (opTk k : Int), .string ⟨(opSt k).toArray⟩]) ∧ w = w' := by
  have e1 : opTk k = 20 := by unfold opTk opIx; rw [hr]; rfl
  have e2 : opSt k = [62, 62] := by unfold opSt opIx; rw [hr]; rfl
  rw [e1, e2]
  clear e1 e2
  go_enter Tryd.func9, Tryd.ntmps9
  go_wp2
  go_ret2
  exact ⟨rfl, rfl⟩
set_option maxHeartbeats 400000 in
theorem zzOp_m9 (k : Int) (w : World) (hr : k.tmod 19 = -9) : Calls Tryd.prog 9 #[.int .i64 k] w fun e w' => e = .returned (.tuple #[.int .i64 (opTk k : Int), .string ⟨(opSt k).toArray⟩]) ∧ w = w' := by
  have e1 : opTk k = 21 := by unfold opTk opIx; rw [hr]; rfl
  have e2 : opSt k = [38, 94] := by unfold opSt opIx; rw [hr]; rfl
  rw [e1, e2]
  clear e1 e2
  go_enter Tryd.func9, Tryd.ntmps9
  go_wp2
  go_ret2
  exact ⟨rfl, rfl⟩
set_option maxHeartbeats 400000 in
theorem zzOp_m8 (k : Int) (w : World) (hr : k.tmod 19 = -8) : Calls Tryd.prog 9 #[.int .i64 k] w fun e w' => e = .returned (.tuple #[.int .i64 (opTk k : Int), .string ⟨(opSt k).toArray⟩]) ∧ w = w' := by
  have e1 : opTk k = 33 := by unfold opTk opIx; rw [hr]; rfl
  have e2 : opSt k = [38, 38] := by unfold opSt opIx; rw [hr]; rfl
  rw [e1, e2]
  clear e1 e2
  go_enter Tryd.func9, Tryd.ntmps9
  go_wp2
  go_ret2
  exact ⟨rfl, rfl⟩
set_option maxHeartbeats 400000 in
theorem zzOp_m7 (k : Int) (w : World) (hr : k.tmod 19 = -7) : Calls Tryd.prog 9 #[.int .i64 k] w fun e w' => e = .returned (.tuple #[.int .i64 (opTk k : Int), .string ⟨(opSt k).toArray⟩]) ∧ w = w' := by
  have e1 : opTk k = 34 := by unfold opTk opIx; rw [hr]; rfl
  have e2 : opSt k = [124, 124] := by unfold opSt opIx; rw [hr]; rfl
  rw [e1, e2]
  clear e1 e2
  go_enter Tryd.func9, Tryd.ntmps9
  go_wp2
  go_ret2
  exact ⟨rfl, rfl⟩
set_option maxHeartbeats 400000 in
theorem zzOp_m6 (k : Int) (w : World) (hr : k.tmod 19 = -6) : Calls Tryd.prog 9 #[.int .i64 k] w fun e w' => e = .returned (.tuple #[.int .i64 (opTk k : Int), .string ⟨(opSt k).toArray⟩]) ∧ w = w' := by
  have e1 : opTk k = 37 := by unfold opTk opIx; rw [hr]; rfl
  have e2 : opSt k = [61, 61] := by unfold opSt opIx; rw [hr]; rfl
  rw [e1, e2]
  clear e1 e2
  go_enter Tryd.func9, Tryd.ntmps9
  go_wp2
  go_ret2
  exact ⟨rfl, rfl⟩
set_option maxHeartbeats 400000 in
theorem zzOp_m5 (k : Int) (w : World) (hr : k.tmod 19 = -5) : Calls Tryd.prog 9 #[.int .i64 k] w fun e w' => e = .returned (.tuple #[.int .i64 (opTk k : Int), .string ⟨(opSt k).toArray⟩]) ∧ w = w' := by
  have e1 : opTk k = 42 := by unfold opTk opIx; rw [hr]; rfl
  have e2 : opSt k = [33, 61] := by unfold opSt opIx; rw [hr]; rfl
  rw [e1, e2]
  clear e1 e2
  go_enter Tryd.func9, Tryd.ntmps9
  go_wp2
  go_ret2
  exact ⟨rfl, rfl⟩
set_option maxHeartbeats 400000 in
theorem zzOp_m4 (k : Int) (w : World) (hr : k.tmod 19 = -4) : Calls Tryd.prog 9 #[.int .i64 k] w fun e w' => e = .returned (.tuple #[.int .i64 (opTk k : Int), .string ⟨(opSt k).toArray⟩]) ∧ w = w' := by
  have e1 : opTk k = 38 := by unfold opTk opIx; rw [hr]; rfl
  have e2 : opSt k = [60] := by unfold opSt opIx; rw [hr]; rfl
  rw [e1, e2]
  clear e1 e2
  go_enter Tryd.func9, Tryd.ntmps9
  go_wp2
  go_ret2
  exact ⟨rfl, rfl⟩
set_option maxHeartbeats 400000 in
theorem zzOp_m3 (k : Int) (w : World) (hr : k.tmod 19 = -3) : Calls Tryd.prog 9 #[.int .i64 k] w fun e w' => e = .returned (.tuple #[.int .i64 (opTk k : Int), .string ⟨(opSt k).toArray⟩]) ∧ w = w' := by
  have e1 : opTk k = 39 := by unfold opTk opIx; rw [hr]; rfl
  have e2 : opSt k = [62] := by unfold opSt opIx; rw [hr]; rfl
  rw [e1, e2]
  clear e1 e2
  go_enter Tryd.func9, Tryd.ntmps9
  go_wp2
  go_ret2
  exact ⟨rfl, rfl⟩
set_option maxHeartbeats 400000 in
theorem zzOp_m2 (k : Int) (w : World) (hr : k.tmod 19 = -2) : Calls Tryd.prog 9 #[.int .i64 k] w fun e w' => e = .returned (.tuple #[.int .i64 (opTk k : Int), .string ⟨(opSt k).toArray⟩]) ∧ w = w' := by
  have e1 : opTk k = 43 := by unfold opTk opIx; rw [hr]; rfl
  have e2 : opSt k = [60, 61] := by unfold opSt opIx; rw [hr]; rfl
  rw [e1, e2]
  clear e1 e2
  go_enter Tryd.func9, Tryd.ntmps9
  go_wp2
  go_ret2
  exact ⟨rfl, rfl⟩
set_option maxHeartbeats 400000 in
theorem zzOp_m1 (k : Int) (w : World) (hr : k.tmod 19 = -1) : Calls Tryd.prog 9 #[.int .i64 k] w fun e w' => e = .returned (.tuple #[.int .i64 (opTk k : Int), .string ⟨(opSt k).toArray⟩]) ∧ w = w' := by
  have e1 : opTk k = 44 := by unfold opTk opIx; rw [hr]; rfl
  have e2 : opSt k = [62, 61] := by unfold opSt opIx; rw [hr]; rfl
  rw [e1, e2]
  clear e1 e2
  go_enter Tryd.func9, Tryd.ntmps9
  go_wp2
  go_ret2
  exact ⟨rfl, rfl⟩
set_option maxHeartbeats 400000 in
theorem zzOp_0 (k : Int) (w : World) (hr : k.tmod 19 = 0) : Calls Tryd.prog 9 #[.int .i64 k] w fun e w' => e = .returned (.tuple #[.int .i64 (opTk k : Int), .string ⟨(opSt k).toArray⟩]) ∧ w = w' := by
  have e1 : opTk k = 11 := by unfold opTk opIx; rw [hr]; rfl
  have e2 : opSt k = [43] := by unfold opSt opIx; rw [hr]; rfl
  rw [e1, e2]
  clear e1 e2
  go_enter Tryd.func9, Tryd.ntmps9
  go_wp2
  go_ret2
  exact ⟨rfl, rfl⟩
set_option maxHeartbeats 400000 in
theorem zzOp_1 (k : Int) (w : World) (hr : k.tmod 19 = 1) : Calls Tryd.prog 9 #[.int .i64 k] w fun e w' => e = .returned (.tuple #[.int .i64 (opTk k : Int), .string ⟨(opSt k).toArray⟩]) ∧ w = w' := by
  have e1 : opTk k = 12 := by unfold opTk opIx; rw [hr]; rfl
  have e2 : opSt k = [45] := by unfold opSt opIx; rw [hr]; rfl
  rw [e1, e2]
  clear e1 e2
  go_enter Tryd.func9, Tryd.ntmps9
  go_wp2
  go_ret2
  exact ⟨rfl, rfl⟩
set_option maxHeartbeats 400000 in
theorem zzOp_2 (k : Int) (w : World) (hr : k.tmod 19 = 2) : Calls Tryd.prog 9 #[.int .i64 k] w fun e w' => e = .returned (.tuple #[.int .i64 (opTk k : Int), .string ⟨(opSt k).toArray⟩]) ∧ w = w' := by
  have e1 : opTk k = 13 := by unfold opTk opIx; rw [hr]; rfl
  have e2 : opSt k = [42] := by unfold opSt opIx; rw [hr]; rfl
  rw [e1, e2]
  clear e1 e2
  go_enter Tryd.func9, Tryd.ntmps9
  go_wp2
  go_ret2
  exact ⟨rfl, rfl⟩
set_option maxHeartbeats 400000 in
theorem zzOp_3 (k : Int) (w : World) (hr : k.tmod 19 = 3) : Calls Tryd.prog 9 #[.int .i64 k] w fun e w' => e = .returned (.tuple #[.int .i64 (opTk k : Int), .string ⟨(opSt k).toArray⟩]) ∧ w = w' := by
  have e1 : opTk k = 14 := by unfold opTk opIx; rw [hr]; rfl
  have e2 : opSt k = [47] := by unfold opSt opIx; rw [hr]; rfl
  rw [e1, e2]
  clear e1 e2
  go_enter Tryd.func9, Tryd.ntmps9
  go_wp2
  go_ret2
  exact ⟨rfl, rfl⟩
set_option maxHeartbeats 400000 in
theorem zzOp_4 (k : Int) (w : World) (hr : k.tmod 19 = 4) : Calls Tryd.prog 9 #[.int .i64 k] w fun e w' => e = .returned (.tuple #[.int .i64 (opTk k : Int), .string ⟨(opSt k).toArray⟩]) ∧ w = w' := by
  have e1 : opTk k = 15 := by unfold opTk opIx; rw [hr]; rfl
  have e2 : opSt k = [37] := by unfold opSt opIx; rw [hr]; rfl
  rw [e1, e2]
  clear e1 e2
  go_enter Tryd.func9, Tryd.ntmps9
  go_wp2
  go_ret2
  exact ⟨rfl, rfl⟩
set_option maxHeartbeats 400000 in
theorem zzOp_5 (k : Int) (w : World) (hr : k.tmod 19 = 5) : Calls Tryd.prog 9 #[.int .i64 k] w fun e w' => e = .returned (.tuple #[.int .i64 (opTk k : Int), .string ⟨(opSt k).toArray⟩]) ∧ w = w' := by
  have e1 : opTk k = 16 := by unfold opTk opIx; rw [hr]; rfl
  have e2 : opSt k = [38] := by unfold opSt opIx; rw [hr]; rfl
  rw [e1, e2]
  clear e1 e2
  go_enter Tryd.func9, Tryd.ntmps9
  go_wp2
  go_ret2
  exact ⟨rfl, rfl⟩
set_option maxHeartbeats 400000 in
theorem zzOp_6 (k : Int) (w : World) (hr : k.tmod 19 = 6) : Calls Tryd.prog 9 #[.int .i64 k] w fun e w' => e = .returned (.tuple #[.int .i64 (opTk k : Int), .string ⟨(opSt k).toArray⟩]) ∧ w = w' := by
  have e1 : opTk k = 17 := by unfold opTk opIx; rw [hr]; rfl
  have e2 : opSt k = [124] := by unfold opSt opIx; rw [hr]; rfl
  rw [e1, e2]
  clear e1 e2
  go_enter Tryd.func9, Tryd.ntmps9
  go_wp2
  go_ret2
  exact ⟨rfl, rfl⟩
set_option maxHeartbeats 400000 in
theorem zzOp_7 (k : Int) (w : World) (hr : k.tmod 19 = 7) : Calls Tryd.prog 9 #[.int .i64 k] w fun e w' => e = .returned (.tuple #[.int .i64 (opTk k : Int), .string ⟨(opSt k).toArray⟩]) ∧ w = w' := by
  have e1 : opTk k = 18 := by unfold opTk opIx; rw [hr]; rfl
  have e2 : opSt k = [94] := by unfold opSt opIx; rw [hr]; rfl
  rw [e1, e2]
  clear e1 e2
  go_enter Tryd.func9, Tryd.ntmps9
  go_wp2
  go_ret2
  exact ⟨rfl, rfl⟩
set_option maxHeartbeats 400000 in
theorem zzOp_8 (k : Int) (w : World) (hr : k.tmod 19 = 8) : Calls Tryd.prog 9 #[.int .i64 k] w fun e w' => e = .returned (.tuple #[.int .i64 (opTk k : Int), .string ⟨(opSt k).toArray⟩]) ∧ w = w' := by
  have e1 : opTk k = 19 := by unfold opTk opIx; rw [hr]; rfl
  have e2 : opSt k = [60, 60] := by unfold opSt opIx; rw [hr]; rfl
  rw [e1, e2]
  clear e1 e2
  go_enter Tryd.func9, Tryd.ntmps9
  go_wp2
  go_ret2
  exact ⟨rfl, rfl⟩
set_option maxHeartbeats 400000 in
theorem zzOp_9 (k : Int) (w : World) (hr : k.tmod 19 = 9) : Calls Tryd.prog 9 #[.int .i64 k] w fun e w' => e = .returned (.tuple #[.int .i64 (opTk k : Int), .string ⟨(opSt k).toArray⟩]) ∧ w = w' := by
  have e1 : opTk k = 20 := by unfold opTk opIx; rw [hr]; rfl
  have e2 : opSt k = [62, 62] := by unfold opSt opIx; rw [hr]; rfl
  rw [e1, e2]
  clear e1 e2
  go_enter Tryd.func9, Tryd.ntmps9
  go_wp2
  go_ret2
  exact ⟨rfl, rfl⟩
set_option maxHeartbeats 400000 in
theorem zzOp_10 (k : Int) (w : World) (hr : k.tmod 19 = 10) : Calls Tryd.prog 9 #[.int .i64 k] w fun e w' => e = .returned (.tuple #[.int .i64 (opTk k : Int), .string ⟨(opSt k).toArray⟩]) ∧ w = w' := by
  have e1 : opTk k = 21 := by unfold opTk opIx; rw [hr]; rfl
  have e2 : opSt k = [38, 94] := by unfold opSt opIx; rw [hr]; rfl
  rw [e1, e2]
  clear e1 e2
  go_enter Tryd.func9, Tryd.ntmps9
  go_wp2
  go_ret2
  exact ⟨rfl, rfl⟩
set_option maxHeartbeats 400000 in
theorem zzOp_11 (k : Int) (w : World) (hr : k.tmod 19 = 11) : Calls Tryd.prog 9 #[.int .i64 k] w fun e w' => e = .returned (.tuple #[.int .i64 (opTk k : Int), .string ⟨(opSt k).toArray⟩]) ∧ w = w' := by
  have e1 : opTk k = 33 := by unfold opTk opIx; rw [hr]; rfl
  have e2 : opSt k = [38, 38] := by unfold opSt opIx; rw [hr]; rfl
  rw [e1, e2]
  clear e1 e2
  go_enter Tryd.func9, Tryd.ntmps9
  go_wp2
  go_ret2
  exact ⟨rfl, rfl⟩
set_option maxHeartbeats 400000 in
theorem zzOp_12 (k : Int) (w : World) (hr : k.tmod 19 = 12) : Calls Tryd.prog 9 #[.int .i64 k] w fun e w' => e = .returned (.tuple #[.int .i64 (opTk k : Int), .string ⟨(opSt k).toArray⟩]) ∧ w = w' := by
  have e1 : opTk k = 34 := by unfold opTk opIx; rw [hr]; rfl
  have e2 : opSt k = [124, 124] := by unfold opSt opIx; rw [hr]; rfl
  rw [e1, e2]
  clear e1 e2
  go_enter Tryd.func9, Tryd.ntmps9
  go_wp2
  go_ret2
  exact ⟨rfl, rfl⟩
set_option maxHeartbeats 400000 in
theorem zzOp_13 (k : Int) (w : World) (hr : k.tmod 19 = 13) : Calls Tryd.prog 9 #[.int .i64 k] w fun e w' => e = .returned (.tuple #[.int .i64 (opTk k : Int), .string ⟨(opSt k).toArray⟩]) ∧ w = w' := by
  have e1 : opTk k = 37 := by unfold opTk opIx; rw [hr]; rfl
  have e2 : opSt k = [61, 61] := by unfold opSt opIx; rw [hr]; rfl
  rw [e1, e2]
  clear e1 e2
  go_enter Tryd.func9, Tryd.ntmps9
  go_wp2
  go_ret2
  exact ⟨rfl, rfl⟩
set_option maxHeartbeats 400000 in
theorem zzOp_14 (k : Int) (w : World) (hr : k.tmod 19 = 14) : Calls Tryd.prog 9 #[.int .i64 k] w fun e w' => e = .returned (.tuple #[.int .i64 (opTk k : Int), .string ⟨(opSt k).toArray⟩]) ∧ w = w' := by
  have e1 : opTk k = 42 := by unfold opTk opIx; rw [hr]; rfl
  have e2 : opSt k = [33, 61] := by unfold opSt opIx; rw [hr]; rfl
  rw [e1, e2]
  clear e1 e2
  go_enter Tryd.func9, Tryd.ntmps9
  go_wp2
  go_ret2
  exact ⟨rfl, rfl⟩
set_option maxHeartbeats 400000 in
theorem zzOp_15 (k : Int) (w : World) (hr : k.tmod 19 = 15) : Calls Tryd.prog 9 #[.int .i64 k] w fun e w' => e = .returned (.tuple #[.int .i64 (opTk k : Int), .string ⟨(opSt k).toArray⟩]) ∧ w = w' := by
  have e1 : opTk k = 38 := by unfold opTk opIx; rw [hr]; rfl
  have e2 : opSt k = [60] := by unfold opSt opIx; rw [hr]; rfl
  rw [e1, e2]
  clear e1 e2
  go_enter Tryd.func9, Tryd.ntmps9
  go_wp2
  go_ret2
  exact ⟨rfl, rfl⟩
set_option maxHeartbeats 400000 in
theorem zzOp_16 (k : Int) (w : World) (hr : k.tmod 19 = 16) : Calls Tryd.prog 9 #[.int .i64 k] w fun e w' => e = .returned (.tuple #[.int .i64 (opTk k : Int), .string ⟨(opSt k).toArray⟩]) ∧ w = w' := by
  have e1 : opTk k = 39 := by unfold opTk opIx; rw [hr]; rfl
  have e2 : opSt k = [62] := by unfold opSt opIx; rw [hr]; rfl
  rw [e1, e2]
  clear e1 e2
  go_enter Tryd.func9, Tryd.ntmps9
  go_wp2
  go_ret2
  exact ⟨rfl, rfl⟩
set_option maxHeartbeats 400000 in
theorem zzOp_17 (k : Int) (w : World) (hr : k.tmod 19 = 17) : Calls Tryd.prog 9 #[.int .i64 k] w fun e w' => e = .returned (.tuple #[.int .i64 (opTk k : Int), .string ⟨(opSt k).toArray⟩]) ∧ w = w' := by
  have e1 : opTk k = 43 := by unfold opTk opIx; rw [hr]; rfl
  have e2 : opSt k = [60, 61] := by unfold opSt opIx; rw [hr]; rfl
  rw [e1, e2]
  clear e1 e2
  go_enter Tryd.func9, Tryd.ntmps9
  go_wp2
  go_ret2
  exact ⟨rfl, rfl⟩
set_option maxHeartbeats 400000 in
theorem zzOp_18 (k : Int) (w : World) (hr : k.tmod 19 = 18) : Calls Tryd.prog 9 #[.int .i64 k] w fun e w' => e = .returned (.tuple #[.int .i64 (opTk k : Int), .string ⟨(opSt k).toArray⟩]) ∧ w = w' := by
  have e1 : opTk k = 44 := by unfold opTk opIx; rw [hr]; rfl
  have e2 : opSt k = [62, 61] := by unfold opSt opIx; rw [hr]; rfl
  rw [e1, e2]
  clear e1 e2
  go_enter Tryd.func9, Tryd.ntmps9
  go_wp2
  go_ret2
  exact ⟨rfl, rfl⟩
theorem zzOp_any (k : Int) (w : World) : Calls Tryd.prog 9 #[.int .i64 k] w fun e w' => e = .returned (.tuple #[.int .i64 (opTk k : Int), .string ⟨(opSt k).toArray⟩]) ∧ w = w' := by
  have h1 := Int.tmod_lt_of_pos k (show (0 : Int) < 19 by decide)
  have h2 := Int.lt_tmod_of_pos k (show (0 : Int) < 19 by decide)
  have h3 : k.tmod 19 = -18 ∨ k.tmod 19 = -17 ∨ k.tmod 19 = -16 ∨ k.tmod 19 = -15 ∨ k.tmod 19 = -14 ∨ k.tmod 19 = -13 ∨ k.tmod 19 = -12 ∨ k.tmod 19 = -11 ∨ k.tmod 19 = -10 ∨ k.tmod 19 = -9 ∨ k.tmod 19 = -8 ∨ k.tmod 19 = -7 ∨ k.tmod 19 = -6 ∨ k.tmod 19 = -5 ∨ k.tmod 19 = -4 ∨ k.tmod 19 = -3 ∨ k.tmod 19 = -2 ∨ k.tmod 19 = -1 ∨ k.tmod 19 = 0 ∨ k.tmod 19 = 1 ∨ k.tmod 19 = 2 ∨ k.tmod 19 = 3 ∨ k.tmod 19 = 4 ∨ k.tmod 19 = 5 ∨ k.tmod 19 = 6 ∨ k.tmod 19 = 7 ∨ k.tmod 19 = 8 ∨ k.tmod 19 = 9 ∨ k.tmod 19 = 10 ∨ k.tmod 19 = 11 ∨ k.tmod 19 = 12 ∨ k.tmod 19 = 13 ∨ k.tmod 19 = 14 ∨ k.tmod 19 = 15 ∨ k.tmod 19 = 16 ∨ k.tmod 19 = 17 ∨ k.tmod 19 = 18 := by omega
  rcases h3 with h | h | h | h | h | h | h | h | h | h | h | h | h | h | h | h | h | h | h | h | h | h | h | h | h | h | h | h | h | h | h | h | h | h | h | h | h
  · exact zzOp_m18 k w h
  · exact zzOp_m17 k w h
  · exact zzOp_m16 k w h
  · exact zzOp_m15 k w h
  · exact zzOp_m14 k w h
  · exact zzOp_m13 k w h
  · exact zzOp_m12 k w h
  · exact zzOp_m11 k w h
  · exact zzOp_m10 k w h
  · exact zzOp_m9 k w h
  · exact zzOp_m8 k w h
  · exact zzOp_m7 k w h
  · exact zzOp_m6 k w h
  · exact zzOp_m5 k w h
  · exact zzOp_m4 k w h
  · exact zzOp_m3 k w h
  · exact zzOp_m2 k w h
  · exact zzOp_m1 k w h
  · exact zzOp_0 k w h
  · exact zzOp_1 k w h
  · exact zzOp_2 k w h
  · exact zzOp_3 k w h
  · exact zzOp_4 k w h
  · exact zzOp_5 k w h
  · exact zzOp_6 k w h
  · exact zzOp_7 k w h
  · exact zzOp_8 k w h
  · exact zzOp_9 k w h
  · exact zzOp_10 k w h
  · exact zzOp_11 k w h
  · exact zzOp_12 k w h
  · exact zzOp_13 k w h
  · exact zzOp_14 k w h
  · exact zzOp_15 k w h
  · exact zzOp_16 k w h
  · exact zzOp_17 k w h
  · exact zzOp_18 k w h
set_option maxHeartbeats 400000 in
theorem zzIdent_any (b o n cap i : Nat) (s : List UInt8) (w : World) (hi : i < n) (hn : n ≤ 1048576) (hc : w.cell? ⟨b, o + i, none⟩ = some (.string ⟨s.toArray⟩)) :
    Calls Tryd.prog 10 #[.slice (some ⟨b, o, none⟩) n cap, .slice none 0 0, .int .i64 (i : Int)] w fun e w' => e = .returned (.pointer (some ⟨w.heap.size, 0, none⟩)) ∧ w' = w.alloc (.cells #[.string ⟨s.toArray⟩, .int .i64 0] 43) := by
  go_enter Tryd.func10, Tryd.ntmps10
  go_wp2
  go_ret
  exact ⟨rfl, rfl⟩
set_option maxHeartbeats 400000 in
theorem str_at (n : Int) (w : World) (s : ByteArray) (h0 : 0 ≤ n) (h1 : n < 75) (hc : w.cell? ⟨0, n.toNat, none⟩ = some (.string s)) (hs1 : s.toList.isEmpty = false) :
    Calls Tryd.prog 11 #[.int .i64 n] w fun e w' => e = .returned (.string s) ∧ w = w' := by
  go_enter Tryd.func11, Tryd.ntmps11
  go_wp2_with fail
  go_ret
  exact ⟨rfl, rfl⟩
set_option maxHeartbeats 400000 in
theorem idStr_any (p : Nat) (s : List UInt8) (w : World) (h : w.cell? ⟨p, 0, none⟩ = some (.string ⟨s.toArray⟩)) :
    Calls Tryd.prog 43 #[.pointer (some ⟨p, 0, none⟩)] w fun e w' => e = .returned (.string ⟨s.toArray⟩) ∧ ∃ n, w' = w.drewN n := by
  go_enter Tryd.func43, Tryd.ntmps43
  go_wp2_with fail
  go_ret
  exact ⟨rfl, 0, rfl⟩
theorem opSt_len (k : Int) : (opSt k).length ≤ 2 := by
  have : ∀ n, n < 19 → (opSts.getD n []).length ≤ 2 := by decide
  exact this _ (opIx_lt k)
def TokAt (w : World) : Prop := 0 < w.heap.size ∧ ∀ n, n < 19 → w.cell? ⟨0, opTks.getD n 0, none⟩ = some (.string ⟨(opSts.getD n []).toArray⟩)
theorem TokAt.below {w w' : World} (h : TokAt w) {B : Nat} (hB : 0 < B) (hb : Below B w w') : TokAt w' := ⟨Nat.lt_of_lt_of_le h.1 hb.size, fun n hn => (hb.cell (p := ⟨0, opTks.getD n 0, none⟩) hB).trans (h.2 n hn)⟩
theorem opTks_lt (n : Nat) (h : n < 19) : opTks.getD n 0 < 75 := by
  have : ∀ n, n < 19 → opTks.getD n 0 < 75 := by decide
  exact this n h
theorem opSts_all : (List.range 19).all (fun n => !(ByteArray.mk (opSts.getD n []).toArray).toList.isEmpty) = true := by kernel_rfl
theorem opSts_ne (n : Nat) (h : n < 19) : (ByteArray.mk (opSts.getD n []).toArray).toList.isEmpty = false := by
  have := List.all_eq_true.1 opSts_all n (List.mem_range.2 h)
  simpa only [Bool.not_eq_true'] using this
/-- all blocks that are no row of nodes stay -/
def Agree (w W : World) : Prop := (TokAt w → TokAt W) ∧ ∀ (k : Nat) (ob : Obj), w.heap[k]? = some ob → (∀ cs fz, ob ≠ .cells cs 29 fz) → W.heap[k]? = some ob
theorem Agree.trans {a b c : World} (h : Agree a b) (k : Agree b c) : Agree a c := ⟨fun t => k.1 (h.1 t), fun i o hi ho => k.2 i o (h.2 i o hi ho) ho⟩
theorem Agree.qt {a b : World} (h : Qt a b) : Agree a b := ⟨fun t => t.below t.1 (h.below _), fun i o hi _ => by rw [h.block]; exact hi⟩
theorem lt_of_some {w : World} {k : Nat} {o : Obj} (h : w.heap[k]? = some o) : k < w.heap.size := by
  rcases Nat.lt_or_ge k w.heap.size with h1 | h1
  · exact h1
  · rw [Array.getElem?_eq_none h1] at h
    cases h
theorem Agree.below {a b : World} (h : Below a.heap.size a b) : Agree a b := ⟨fun t => t.below t.1 h, fun i o hi _ => by rw [h.block i (lt_of_some hi)]; exact hi⟩
theorem Agree.blk {a b : World} (h : Agree a b) {g : Nat} {t : TypeId} {cs : Array Value} (hb : Blk a g t cs) (hne : t ≠ 29) : Blk b g t cs :=
  h.2 g _ hb (fun cs' fz e => by injection e with _ e2; exact hne e2)
/-- what String (function F) says of a pointer, in every world that agrees -/
def Says (F : Nat) (w : World) (p : Nat) (s : List UInt8) : Prop :=
  ∀ W : World, Agree w W → Calls Tryd.prog F #[.pointer (some ⟨p, 0, none⟩)] W fun e w' => e = .returned (.string ⟨s.toArray⟩) ∧ ∃ n, w' = W.drewN n
theorem Says.later {F : Nat} {w w1 : World} {p : Nat} {s : List UInt8} (h : Says F w p s) (hb : Agree w w1) : Says F w1 p s := fun W hW => h W (hb.trans hW)
theorem says_leaf {w : World} {p : Nat} {s : List UInt8} (hb : Blk w p 43 #[.string ⟨s.toArray⟩, .int .i64 0]) : Says 43 w p s := fun W hW =>
  idStr_any p s W (by rw [(hW.blk hb (by decide)).cell]; rfl)
theorem bapp (a b : List UInt8) : (ByteArray.mk a.toArray) ++ ⟨b.toArray⟩ = ⟨(a ++ b).toArray⟩ := by
  apply ByteArray.ext
  simp
def binT (s o t : List UInt8) : List UInt8 := [40] ++ s ++ [32] ++ o ++ [32] ++ t ++ [41]
theorem bin_bytes (s o t : List UInt8) : (⟨[40].toArray⟩ : ByteArray) ++ ⟨s.toArray⟩ ++ ⟨[32].toArray⟩ ++ ⟨o.toArray⟩ ++ ⟨[32].toArray⟩ ++ ⟨t.toArray⟩ ++ ⟨[41].toArray⟩ = ⟨(binT s o t).toArray⟩ := by
  rw [bapp, bapp, bapp, bapp, bapp, bapp]
  rfl
theorem nilA_id (a : Addr) (w : World) : (nilAhead 181 35 (.pointer (some a)) "String").run Tryd.prog w = .ok (some false) w := by kernel_rfl
theorem meth_id (a : Addr) (w : World) : (method 181 35 (.pointer (some a)) "String").run Tryd.prog w = .ok (43, .pointer (some a)) w := by kernel_rfl
theorem nilA_bi (a : Addr) (w : World) : (nilAhead 181 29 (.pointer (some a)) "String").run Tryd.prog w = .ok (some false) w := by kernel_rfl
theorem meth_bi (a : Addr) (w : World) : (method 181 29 (.pointer (some a)) "String").run Tryd.prog w = .ok (8, .pointer (some a)) w := by kernel_rfl
set_option maxHeartbeats 2000000 in
theorem bin_idid (p q1 q2 : Nat) (k : Int) (s t : List UInt8) (w : World) (hs : s.length ≤ 536870912) (ht : t.length ≤ 536870912) (hk : TokAt w) (hb : Blk w p 41 #[.iface 35 (.pointer (some ⟨q1, 0, none⟩)), .iface 35 (.pointer (some ⟨q2, 0, none⟩)), .int .i64 (opTk k : Int), .int .i64 0])
    (h1 : Says 43 w q1 s) (h2 : Says 43 w q2 t) : Calls Tryd.prog 8 #[.pointer (some ⟨p, 0, none⟩)] w fun e w' => e = .returned (.string ⟨(binT s (opSt k) t).toArray⟩) ∧ ∃ n, w' = w.drewN n := by
  have c0 : w.cell? ⟨p, 0, none⟩ = some (.iface 35 (.pointer (some ⟨q1, 0, none⟩))) := by rw [hb.cell]; rfl
  have c1 : w.cell? ⟨p, 1, none⟩ = some (.iface 35 (.pointer (some ⟨q2, 0, none⟩))) := by rw [hb.cell]; rfl
  have c2 : w.cell? ⟨p, 2, none⟩ = some (.int .i64 (opTk k : Int)) := by rw [hb.cell]; rfl
  have HHS := Lib.hid (fun m => (str_at (opTk k : Int) (w.drewN m) ⟨(opSt k).toArray⟩ (by omega) (by have := opTks_lt _ (opIx_lt k); unfold opTk; omega) (by have := hk.2 _ (opIx_lt k); simpa [opTk, opSt] using this) (opSts_ne _ (opIx_lt k))).mono (fun _ _ ⟨he, hw⟩ => (⟨he, hw.symm⟩ : _ ∧ _)))
  have HL1 := Lib.hid (fun m => h1 (w.drewN m) (Agree.qt ((Qt.refl w).drewN m)))
  have HL2 := Lib.hid (fun m => h2 (w.drewN m) (Agree.qt ((Qt.refl w).drewN m)))
  have hna1 := nilA_id
  have hss : (ByteArray.mk s.toArray).size = s.length := by simp [ByteArray.size]
  have hst : (ByteArray.mk t.toArray).size = t.length := by simp [ByteArray.size]
  have hso : (ByteArray.mk (opSt k).toArray).size = (opSt k).length := by simp [ByteArray.size]
  have hol := opSt_len k
  have hme1 := meth_id
  
  
  clear hk hb h1 h2
  go_enter Tryd.func8, Tryd.ntmps8
  go_wp2_with fail
  go_quiet (first | (go_at_call 11; exact Calls.quiet_of_same (HHS.out _)) | (go_at_call 43; first | exact Calls.quiet_of (HL1.out _) | exact Calls.quiet_of (HL2.out _)))
  go_wp2_with fail
  go_ret
  exact ⟨congrArg (fun b => Ending.returned (.string b)) (bin_bytes s (opSt k) t), _, rfl⟩
theorem says_idid (p q1 q2 : Nat) (k : Int) (s t : List UInt8) (w : World) (hs : s.length ≤ 536870912) (ht : t.length ≤ 536870912) (hk : TokAt w) (hb : Blk w p 41 #[.iface 35 (.pointer (some ⟨q1, 0, none⟩)), .iface 35 (.pointer (some ⟨q2, 0, none⟩)), .int .i64 (opTk k : Int), .int .i64 0])
    (h1 : Says 43 w q1 s) (h2 : Says 43 w q2 t) : Says 8 w p (binT s (opSt k) t) := fun W hW =>
  bin_idid p q1 q2 k s t W hs ht (hW.1 hk) (hW.blk hb (by decide)) (h1.later hW) (h2.later hW)
set_option maxHeartbeats 2000000 in
theorem bin_biid (p q1 q2 : Nat) (k : Int) (s t : List UInt8) (w : World) (hs : s.length ≤ 536870912) (ht : t.length ≤ 536870912) (hk : TokAt w) (hb : Blk w p 41 #[.iface 29 (.pointer (some ⟨q1, 0, none⟩)), .iface 35 (.pointer (some ⟨q2, 0, none⟩)), .int .i64 (opTk k : Int), .int .i64 0])
    (h1 : Says 8 w q1 s) (h2 : Says 43 w q2 t) : Calls Tryd.prog 8 #[.pointer (some ⟨p, 0, none⟩)] w fun e w' => e = .returned (.string ⟨(binT s (opSt k) t).toArray⟩) ∧ ∃ n, w' = w.drewN n := by
  have c0 : w.cell? ⟨p, 0, none⟩ = some (.iface 29 (.pointer (some ⟨q1, 0, none⟩))) := by rw [hb.cell]; rfl
  have c1 : w.cell? ⟨p, 1, none⟩ = some (.iface 35 (.pointer (some ⟨q2, 0, none⟩))) := by rw [hb.cell]; rfl
  have c2 : w.cell? ⟨p, 2, none⟩ = some (.int .i64 (opTk k : Int)) := by rw [hb.cell]; rfl
  have HHS := Lib.hid (fun m => (str_at (opTk k : Int) (w.drewN m) ⟨(opSt k).toArray⟩ (by omega) (by have := opTks_lt _ (opIx_lt k); unfold opTk; omega) (by have := hk.2 _ (opIx_lt k); simpa [opTk, opSt] using this) (opSts_ne _ (opIx_lt k))).mono (fun _ _ ⟨he, hw⟩ => (⟨he, hw.symm⟩ : _ ∧ _)))
  have HL1 := Lib.hid (fun m => h1 (w.drewN m) (Agree.qt ((Qt.refl w).drewN m)))
  have HL2 := Lib.hid (fun m => h2 (w.drewN m) (Agree.qt ((Qt.refl w).drewN m)))
  have hna1 := nilA_bi
  have hss : (ByteArray.mk s.toArray).size = s.length := by simp [ByteArray.size]
  have hst : (ByteArray.mk t.toArray).size = t.length := by simp [ByteArray.size]
  have hso : (ByteArray.mk (opSt k).toArray).size = (opSt k).length := by simp [ByteArray.size]
  have hol := opSt_len k
  have hme1 := meth_bi
  have hna2 := nilA_id
  have hme2 := meth_id
  clear hk hb h1 h2
  go_enter Tryd.func8, Tryd.ntmps8
  go_wp2_with fail
  go_quiet (first | (go_at_call 11; exact Calls.quiet_of_same (HHS.out _)) | (go_at_call 8; exact Calls.quiet_of (HL1.out _)) | (go_at_call 43; exact Calls.quiet_of (HL2.out _)))
  go_wp2_with fail
  go_ret
  exact ⟨congrArg (fun b => Ending.returned (.string b)) (bin_bytes s (opSt k) t), _, rfl⟩
theorem says_biid (p q1 q2 : Nat) (k : Int) (s t : List UInt8) (w : World) (hs : s.length ≤ 536870912) (ht : t.length ≤ 536870912) (hk : TokAt w) (hb : Blk w p 41 #[.iface 29 (.pointer (some ⟨q1, 0, none⟩)), .iface 35 (.pointer (some ⟨q2, 0, none⟩)), .int .i64 (opTk k : Int), .int .i64 0])
    (h1 : Says 8 w q1 s) (h2 : Says 43 w q2 t) : Says 8 w p (binT s (opSt k) t) := fun W hW =>
  bin_biid p q1 q2 k s t W hs ht (hW.1 hk) (hW.blk hb (by decide)) (h1.later hW) (h2.later hW)
set_option maxHeartbeats 2000000 in
theorem bin_idbi (p q1 q2 : Nat) (k : Int) (s t : List UInt8) (w : World) (hs : s.length ≤ 536870912) (ht : t.length ≤ 536870912) (hk : TokAt w) (hb : Blk w p 41 #[.iface 35 (.pointer (some ⟨q1, 0, none⟩)), .iface 29 (.pointer (some ⟨q2, 0, none⟩)), .int .i64 (opTk k : Int), .int .i64 0])
    (h1 : Says 43 w q1 s) (h2 : Says 8 w q2 t) : Calls Tryd.prog 8 #[.pointer (some ⟨p, 0, none⟩)] w fun e w' => e = .returned (.string ⟨(binT s (opSt k) t).toArray⟩) ∧ ∃ n, w' = w.drewN n := by
  have c0 : w.cell? ⟨p, 0, none⟩ = some (.iface 35 (.pointer (some ⟨q1, 0, none⟩))) := by rw [hb.cell]; rfl
  have c1 : w.cell? ⟨p, 1, none⟩ = some (.iface 29 (.pointer (some ⟨q2, 0, none⟩))) := by rw [hb.cell]; rfl
  have c2 : w.cell? ⟨p, 2, none⟩ = some (.int .i64 (opTk k : Int)) := by rw [hb.cell]; rfl
  have HHS := Lib.hid (fun m => (str_at (opTk k : Int) (w.drewN m) ⟨(opSt k).toArray⟩ (by omega) (by have := opTks_lt _ (opIx_lt k); unfold opTk; omega) (by have := hk.2 _ (opIx_lt k); simpa [opTk, opSt] using this) (opSts_ne _ (opIx_lt k))).mono (fun _ _ ⟨he, hw⟩ => (⟨he, hw.symm⟩ : _ ∧ _)))
  have HL1 := Lib.hid (fun m => h1 (w.drewN m) (Agree.qt ((Qt.refl w).drewN m)))
  have HL2 := Lib.hid (fun m => h2 (w.drewN m) (Agree.qt ((Qt.refl w).drewN m)))
  have hna1 := nilA_id
  have hss : (ByteArray.mk s.toArray).size = s.length := by simp [ByteArray.size]
  have hst : (ByteArray.mk t.toArray).size = t.length := by simp [ByteArray.size]
  have hso : (ByteArray.mk (opSt k).toArray).size = (opSt k).length := by simp [ByteArray.size]
  have hol := opSt_len k
  have hme1 := meth_id
  have hna2 := nilA_bi
  have hme2 := meth_bi
  clear hk hb h1 h2
  go_enter Tryd.func8, Tryd.ntmps8
  go_wp2_with fail
  go_quiet (first | (go_at_call 11; exact Calls.quiet_of_same (HHS.out _)) | (go_at_call 43; exact Calls.quiet_of (HL1.out _)) | (go_at_call 8; exact Calls.quiet_of (HL2.out _)))
  go_wp2_with fail
  go_ret
  exact ⟨congrArg (fun b => Ending.returned (.string b)) (bin_bytes s (opSt k) t), _, rfl⟩
theorem says_idbi (p q1 q2 : Nat) (k : Int) (s t : List UInt8) (w : World) (hs : s.length ≤ 536870912) (ht : t.length ≤ 536870912) (hk : TokAt w) (hb : Blk w p 41 #[.iface 35 (.pointer (some ⟨q1, 0, none⟩)), .iface 29 (.pointer (some ⟨q2, 0, none⟩)), .int .i64 (opTk k : Int), .int .i64 0])
    (h1 : Says 43 w q1 s) (h2 : Says 8 w q2 t) : Says 8 w p (binT s (opSt k) t) := fun W hW =>
  bin_idbi p q1 q2 k s t W hs ht (hW.1 hk) (hW.blk hb (by decide)) (h1.later hW) (h2.later hW)
end Go.Proofs.YtpdfoofjnoegpaaDoor
