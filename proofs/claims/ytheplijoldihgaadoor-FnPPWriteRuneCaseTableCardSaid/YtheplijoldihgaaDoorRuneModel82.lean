/-
  The law's own model of a rune's bytes. No conditions.
-/
import Derived.Test.YtheplijoldihgaaDoorPPRune
import Derived.Laws.MathBits
namespace Go.Proofs.YtheplijoldihgaaDoor
open Go.RowKit
set_option maxRecDepth 100000
set_option linter.unusedVariables false
theorem or128 (b : Int) (h0 : 0 ≤ b) (h1 : b < 64) : bits .or .u32 128 b = 128 + b := by
  obtain ⟨n, rfl⟩ : ∃ n : Nat, b = n := ⟨b.toNat, by omega⟩
  exact (show ∀ m : Fin 64, bits .or .u32 128 ((m.val : Nat) : Int) = 128 + ((m.val : Nat) : Int) by decide +kernel) ⟨n, by omega⟩
theorem or192 (b : Int) (h0 : 0 ≤ b) (h1 : b < 32) : bits .or .u32 192 b = 192 + b := by
  obtain ⟨n, rfl⟩ : ∃ n : Nat, b = n := ⟨b.toNat, by omega⟩
  exact (show ∀ m : Fin 32, bits .or .u32 192 ((m.val : Nat) : Int) = 192 + ((m.val : Nat) : Int) by decide +kernel) ⟨n, by omega⟩
theorem or224 (b : Int) (h0 : 0 ≤ b) (h1 : b < 16) : bits .or .u32 224 b = 224 + b := by
  obtain ⟨n, rfl⟩ : ∃ n : Nat, b = n := ⟨b.toNat, by omega⟩
  exact (show ∀ m : Fin 16, bits .or .u32 224 ((m.val : Nat) : Int) = 224 + ((m.val : Nat) : Int) by decide +kernel) ⟨n, by omega⟩
theorem or240 (b : Int) (h0 : 0 ≤ b) (h1 : b < 8) : bits .or .u32 240 b = 240 + b := by
  obtain ⟨n, rfl⟩ : ∃ n : Nat, b = n := ⟨b.toNat, by omega⟩
  exact (show ∀ m : Fin 8, bits .or .u32 240 ((m.val : Nat) : Int) = 240 + ((m.val : Nat) : Int) by decide +kernel) ⟨n, by omega⟩
theorem and63 (z : Int) (h0 : 0 ≤ z) (h1 : z < 4294967296) : bits .and .u32 z 63 = z % 64 := by go_bits2
theorem and255 (z : Int) (h0 : 0 ≤ z) (h1 : z < 4294967296) : bits .and .u32 z 255 = z % 256 := by go_bits2

def RunePost (r : Int) (w : World) (e : Ending) (w' : World) : Prop :=
  ∃ z0 z1 z2 z3 : Int, e = .returned (.tuple #[.agg #[.int .u8 z0, .int .u8 z1, .int .u8 z2, .int .u8 z3], .int .i64 ((encR r).length : Int), .int .i64 (Lib.runeLen r)]) ∧ (∀ j (h : j < (encR r).length), [z0, z1, z2, z3].getD j 0 = ((encR r)[j].toNat : Int)) ∧ Below w.heap.size w w'
/-- the bytes of a list of numbers below 256 -/
theorem rune_of {r : Int} {zs : List Int} {w w' : World} {z0 z1 z2 z3 : Int} {n c : Int} {e : Ending} (he : encR r = zs.map fun x => x.toNat.toUInt8) (hb : ∀ x ∈ zs, 0 ≤ x ∧ x < 256) (hz : ∀ j, j < zs.length → [z0, z1, z2, z3].getD j 0 = zs.getD j 0) (hn : n = zs.length) (hc : c = Lib.runeLen r)
    (h : e = .returned (.tuple #[.agg #[.int .u8 z0, .int .u8 z1, .int .u8 z2, .int .u8 z3], .int .i64 n, .int .i64 c])) (hB : Below w.heap.size w w') : RunePost r w e w' := by
  have hl : (encR r).length = zs.length := by rw [he, List.length_map]
  refine ⟨z0, z1, z2, z3, by rw [h, hn, hc, hl], fun j hj => ?_, hB⟩
  rw [hz j (by omega)]
  have hj2 : j < zs.length := by omega
  have hx := hb zs[j] (List.getElem_mem hj2)
  have e1 : (encR r)[j] = (zs[j]).toNat.toUInt8 := by simp [he]
  have e2 : zs.getD j 0 = zs[j] := by simp [List.getD, hj2]
  rw [e1, e2, Nat.toUInt8, UInt8.toNat_ofNat']
  omega
theorem encR_big {r : Int} (h : 128 ≤ r) : encR r = (Lib.encodeRuneZ r).map fun x => x.toNat.toUInt8 := by
  unfold encR Lib.encodeRune
  rw [if_neg (by omega)]

set_option maxHeartbeats 1000000 in
theorem model_2 (r : Int) (w : World) (h0 : 128 ≤ r) (h1 : r ≤ 2047) : Calls Tryd.prog 8 #[.int .i32 r] w (RunePost r w) := by
  go_enter Tryd.func8, Tryd.ntmps8
  go_wp2_with fail
  refine bodyPost_ret (v := .tuple #[.agg #[Value.int .u8 (bits BinOp.or IntKind.u32 192 (r / 64) % 256), Value.int .u8 (bits BinOp.or IntKind.u32 128 (bits BinOp.and IntKind.u32 r 63) % 256), Value.int .u8 0, Value.int .u8 0], .int .i64 2, .int .i64 2]) (by simp [results, Tryd.results8, go_sem]) rfl ?_
  refine rune_of (zs := Lib.encodeRuneZ r) (encR_big (by omega)) (Lib.encodeRuneZ_byte r) (fun j hj => ?_) ?_ ?_ rfl ((Below.refl _ _).alloc (Nat.le_refl _) _)
  · rw [Lib.encodeRuneZ_two h0 h1] at hj ⊢
    have hj' : j < 2 := hj
    obtain rfl | rfl : j = 0 ∨ j = 1 := by omega
    · show (bits BinOp.or IntKind.u32 192 (r / 64) % 256) = 192 + r / 64
      rw [or192 _ (by omega) (by omega)]; omega
    · show (bits BinOp.or IntKind.u32 128 (bits BinOp.and IntKind.u32 r 63) % 256) = 128 + r % 64
      rw [and63 _ (by omega) (by omega), or128 _ (by omega) (by omega)]; omega
  · rw [Lib.encodeRuneZ_two h0 h1]
    rfl
  · unfold Lib.runeLen
    omega

set_option maxHeartbeats 1000000 in
theorem model_3a (r : Int) (w : World) (h0 : 2048 ≤ r) (h1 : r < 55296) : Calls Tryd.prog 8 #[.int .i32 r] w (RunePost r w) := by
  go_enter Tryd.func8, Tryd.ntmps8
  go_wp2_with fail
  refine bodyPost_ret (v := .tuple #[.agg #[Value.int .u8 (bits BinOp.or IntKind.u32 224 (r / 4096) % 256), Value.int .u8 (bits BinOp.or IntKind.u32 128 (bits BinOp.and IntKind.u32 (r / 64) 63) % 256), Value.int .u8 (bits BinOp.or IntKind.u32 128 (bits BinOp.and IntKind.u32 r 63) % 256), Value.int .u8 0], .int .i64 3, .int .i64 3]) (by simp [results, Tryd.results8, go_sem]) rfl ?_
  refine rune_of (zs := Lib.encodeRuneZ r) (encR_big (by omega)) (Lib.encodeRuneZ_byte r) (fun j hj => ?_) ?_ ?_ rfl ((Below.refl _ _).alloc (Nat.le_refl _) _)
  · rw [Lib.encodeRuneZ_three (by omega)] at hj ⊢
    have hj' : j < 3 := hj
    obtain rfl | rfl | rfl : j = 0 ∨ j = 1 ∨ j = 2 := by omega
    · show (bits BinOp.or IntKind.u32 224 (r / 4096) % 256) = 224 + r / 4096
      rw [or224 _ (by omega) (by omega)]; omega
    · show (bits BinOp.or IntKind.u32 128 (bits BinOp.and IntKind.u32 (r / 64) 63) % 256) = 128 + r / 64 % 64
      rw [and63 _ (by omega) (by omega), or128 _ (by omega) (by omega)]; omega
    · show (bits BinOp.or IntKind.u32 128 (bits BinOp.and IntKind.u32 r 63) % 256) = 128 + r % 64
      rw [and63 _ (by omega) (by omega), or128 _ (by omega) (by omega)]; omega
  · rw [Lib.encodeRuneZ_three (by omega)]
    rfl
  · unfold Lib.runeLen
    omega

set_option maxHeartbeats 1000000 in
theorem model_3b (r : Int) (w : World) (h0 : 57343 < r) (h1 : r ≤ 65535) : Calls Tryd.prog 8 #[.int .i32 r] w (RunePost r w) := by
  go_enter Tryd.func8, Tryd.ntmps8
  go_wp2_with fail
  refine bodyPost_ret (v := .tuple #[.agg #[Value.int .u8 (bits BinOp.or IntKind.u32 224 (r / 4096) % 256), Value.int .u8 (bits BinOp.or IntKind.u32 128 (bits BinOp.and IntKind.u32 (r / 64) 63) % 256), Value.int .u8 (bits BinOp.or IntKind.u32 128 (bits BinOp.and IntKind.u32 r 63) % 256), Value.int .u8 0], .int .i64 3, .int .i64 3]) (by simp [results, Tryd.results8, go_sem]) rfl ?_
  refine rune_of (zs := Lib.encodeRuneZ r) (encR_big (by omega)) (Lib.encodeRuneZ_byte r) (fun j hj => ?_) ?_ ?_ rfl ((Below.refl _ _).alloc (Nat.le_refl _) _)
  · rw [Lib.encodeRuneZ_three (by omega)] at hj ⊢
    have hj' : j < 3 := hj
    obtain rfl | rfl | rfl : j = 0 ∨ j = 1 ∨ j = 2 := by omega
    · show (bits BinOp.or IntKind.u32 224 (r / 4096) % 256) = 224 + r / 4096
      rw [or224 _ (by omega) (by omega)]; omega
    · show (bits BinOp.or IntKind.u32 128 (bits BinOp.and IntKind.u32 (r / 64) 63) % 256) = 128 + r / 64 % 64
      rw [and63 _ (by omega) (by omega), or128 _ (by omega) (by omega)]; omega
    · show (bits BinOp.or IntKind.u32 128 (bits BinOp.and IntKind.u32 r 63) % 256) = 128 + r % 64
      rw [and63 _ (by omega) (by omega), or128 _ (by omega) (by omega)]; omega
  · rw [Lib.encodeRuneZ_three (by omega)]
    rfl
  · unfold Lib.runeLen
    omega

set_option maxHeartbeats 1000000 in
theorem model_4 (r : Int) (w : World) (h0 : 65536 ≤ r) (h1 : r ≤ 1114111) : Calls Tryd.prog 8 #[.int .i32 r] w (RunePost r w) := by
  go_enter Tryd.func8, Tryd.ntmps8
  go_wp2_with fail
  refine bodyPost_ret (v := .tuple #[.agg #[Value.int .u8 (bits BinOp.or IntKind.u32 240 (r / 262144) % 256), Value.int .u8 (bits BinOp.or IntKind.u32 128 (bits BinOp.and IntKind.u32 (r / 4096) 63) % 256), Value.int .u8 (bits BinOp.or IntKind.u32 128 (bits BinOp.and IntKind.u32 (r / 64) 63) % 256), Value.int .u8 (bits BinOp.or IntKind.u32 128 (bits BinOp.and IntKind.u32 r 63) % 256)], .int .i64 4, .int .i64 4]) (by simp [results, Tryd.results8, go_sem]) rfl ?_
  refine rune_of (zs := Lib.encodeRuneZ r) (encR_big (by omega)) (Lib.encodeRuneZ_byte r) (fun j hj => ?_) ?_ ?_ rfl ((Below.refl _ _).alloc (Nat.le_refl _) _)
  · rw [Lib.encodeRuneZ_four h0 h1] at hj ⊢
    have hj' : j < 4 := hj
    obtain rfl | rfl | rfl | rfl : j = 0 ∨ j = 1 ∨ j = 2 ∨ j = 3 := by omega
    · show (bits BinOp.or IntKind.u32 240 (r / 262144) % 256) = 240 + r / 262144
      rw [or240 _ (by omega) (by omega)]; omega
    · show (bits BinOp.or IntKind.u32 128 (bits BinOp.and IntKind.u32 (r / 4096) 63) % 256) = 128 + r / 4096 % 64
      rw [and63 _ (by omega) (by omega), or128 _ (by omega) (by omega)]; omega
    · show (bits BinOp.or IntKind.u32 128 (bits BinOp.and IntKind.u32 (r / 64) 63) % 256) = 128 + r / 64 % 64
      rw [and63 _ (by omega) (by omega), or128 _ (by omega) (by omega)]; omega
    · show (bits BinOp.or IntKind.u32 128 (bits BinOp.and IntKind.u32 r 63) % 256) = 128 + r % 64
      rw [and63 _ (by omega) (by omega), or128 _ (by omega) (by omega)]; omega
  · rw [Lib.encodeRuneZ_four h0 h1]
    rfl
  · unfold Lib.runeLen
    omega

set_option maxHeartbeats 1000000 in
theorem model_ba (r : Int) (w : World) (h0 : 55296 ≤ r) (h1 : r ≤ 57343) : Calls Tryd.prog 8 #[.int .i32 r] w (RunePost r w) := by
  go_enter Tryd.func8, Tryd.ntmps8
  go_wp2_with fail
  refine bodyPost_ret (v := .tuple #[.agg #[Value.int .u8 239, Value.int .u8 191, Value.int .u8 189, Value.int .u8 0], .int .i64 3, .int .i64 (-1)]) (by simp [results, Tryd.results8, go_sem]) rfl ?_
  refine rune_of (zs := Lib.encodeRuneZ r) (encR_big (by omega)) (Lib.encodeRuneZ_byte r) (fun j hj => ?_) ?_ ?_ rfl ((Below.refl _ _).alloc (Nat.le_refl _) _)
  · rw [Lib.encodeRuneZ_bad (by omega)] at hj ⊢
    have hj' : j < 3 := hj
    obtain rfl | rfl | rfl : j = 0 ∨ j = 1 ∨ j = 2 := by omega
    · rfl
    · rfl
    · rfl
  · rw [Lib.encodeRuneZ_bad (by omega)]
    rfl
  · unfold Lib.runeLen
    omega

set_option maxHeartbeats 1000000 in
theorem model_bb (r : Int) (w : World) (h0 : 1114111 < r) (h1 : r ≤ 2147483647) : Calls Tryd.prog 8 #[.int .i32 r] w (RunePost r w) := by
  go_enter Tryd.func8, Tryd.ntmps8
  go_wp2_with fail
  refine bodyPost_ret (v := .tuple #[.agg #[Value.int .u8 239, Value.int .u8 191, Value.int .u8 189, Value.int .u8 0], .int .i64 3, .int .i64 (-1)]) (by simp [results, Tryd.results8, go_sem]) rfl ?_
  refine rune_of (zs := Lib.encodeRuneZ r) (encR_big (by omega)) (Lib.encodeRuneZ_byte r) (fun j hj => ?_) ?_ ?_ rfl ((Below.refl _ _).alloc (Nat.le_refl _) _)
  · rw [Lib.encodeRuneZ_bad (by omega)] at hj ⊢
    have hj' : j < 3 := hj
    obtain rfl | rfl | rfl : j = 0 ∨ j = 1 ∨ j = 2 := by omega
    · rfl
    · rfl
    · rfl
  · rw [Lib.encodeRuneZ_bad (by omega)]
    rfl
  · unfold Lib.runeLen
    omega

theorem encR_small {r : Int} (h : r < 128) : encR r = [r % 256].map fun x => x.toNat.toUInt8 := by
  unfold encR
  rw [if_pos h]
  rfl
set_option maxHeartbeats 1000000 in
theorem model_1 (r : Int) (w : World) (h0 : 0 ≤ r) (h1 : r < 128) : Calls Tryd.prog 8 #[.int .i32 r] w (RunePost r w) := by
  go_enter Tryd.func8, Tryd.ntmps8
  go_wp2_with fail
  refine bodyPost_ret (v := .tuple #[.agg #[.int .u8 r, .int .u8 0, .int .u8 0, .int .u8 0], .int .i64 1, .int .i64 1]) (by simp [results, Tryd.results8, go_sem]) rfl ?_
  refine rune_of (zs := [r % 256]) (encR_small (by omega)) (fun x hx => ?_) (fun j hj => ?_) rfl ?_ rfl ((Below.refl _ _).alloc (Nat.le_refl _) _)
  · have : x = r % 256 := by simpa using hx
    omega
  · have hj' : j < 1 := hj
    obtain rfl : j = 0 := by omega
    show r = r % 256
    omega
  · unfold Lib.runeLen
    omega
set_option maxHeartbeats 1000000 in
theorem model_0 (r : Int) (w : World) (h0 : -2147483648 ≤ r) (h1 : r < 0) : Calls Tryd.prog 8 #[.int .i32 r] w (RunePost r w) := by
  go_enter Tryd.func8, Tryd.ntmps8
  go_wp2_with fail
  refine bodyPost_ret (v := .tuple #[.agg #[.int .u8 (bits BinOp.and IntKind.u32 (r % 4294967296) 255 % 256), .int .u8 0, .int .u8 0, .int .u8 0], .int .i64 1, .int .i64 (-1)]) (by simp [results, Tryd.results8, go_sem]) rfl ?_
  refine rune_of (zs := [r % 256]) (encR_small (by omega)) (fun x hx => ?_) (fun j hj => ?_) rfl ?_ rfl ((Below.refl _ _).alloc (Nat.le_refl _) _)
  · have : x = r % 256 := by simpa using hx
    omega
  · have hj' : j < 1 := hj
    obtain rfl : j = 0 := by omega
    show (bits BinOp.and IntKind.u32 (r % 4294967296) 255 % 256) = r % 256
    rw [and255 _ (by omega) (by omega)]; omega
  · unfold Lib.runeLen
    omega
theorem model_any (r : Int) (w : World) (h0 : -2147483648 ≤ r) (h1 : r ≤ 2147483647) : Calls Tryd.prog 8 #[.int .i32 r] w (RunePost r w) := by
  by_cases a : r < 0
  · exact model_0 r w h0 a
  by_cases b : r < 128
  · exact model_1 r w (by omega) b
  by_cases c : r ≤ 2047
  · exact model_2 r w (by omega) c
  by_cases d : r < 55296
  · exact model_3a r w (by omega) d
  by_cases e : r ≤ 57343
  · exact model_ba r w (by omega) e
  by_cases f : r ≤ 65535
  · exact model_3b r w (by omega) f
  by_cases g : r ≤ 1114111
  · exact model_4 r w (by omega) g
  · exact model_bb r w (by omega) h1
end Go.Proofs.YtheplijoldihgaaDoor
