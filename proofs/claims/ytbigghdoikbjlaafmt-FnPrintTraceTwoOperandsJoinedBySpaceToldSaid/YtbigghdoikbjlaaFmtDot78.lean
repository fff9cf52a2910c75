/-
  The law's own dotPrefix; the dots in the program's text. Conditions: at most 2^16 of them.
-/
import Derived.Test.YtbigghdoikbjlaaFmtAppW
namespace Go.Proofs.YtbigghdoikbjlaaFmt
open Go.RowKit
open Go.Extern.Stop Go.Stop Go.Extern
set_option maxRecDepth 100000
set_option linter.unusedVariables false

/-- ". " n times -/
def dotL : Nat → List UInt8
  | 0 => []
  | n + 1 => dotL n ++ [46, 32]
theorem dotL_len : ∀ n, (dotL n).length = 2 * n
  | 0 => rfl
  | n + 1 => by simp [dotL, dotL_len n]; omega
theorem dotL_add (a : Nat) : ∀ b, dotL (a + b) = dotL a ++ dotL b
  | 0 => by simp [dotL]
  | b + 1 => by
    rw [show a + (b + 1) = (a + b) + 1 by omega, dotL, dotL_add a b, dotL]
    simp
set_option maxHeartbeats 2000000 in
theorem dot_any (n : Nat) (hn : n ≤ 65536) (w : World) :
    Calls Tryf.prog 7 #[.int .i64 (n : Int)] w fun e w' => e = .returned (.string ⟨(dotL n).toArray⟩) ∧ Below w.heap.size w w' := by
  obtain ⟨K, hK⟩ : ∃ K : Nat, 2 * n = K := ⟨_, rfl⟩
  have hKi : 2 * (n : Int) = (K : Int) := by omega
  have hmk := fun W => mk0 K (by omega) W
  have HO := Lib.hid (OwnB.new (w := w) (B := w.heap.size) (k := K) (Nat.le_refl _) (by omega))
  have HBL := Lib.hid ((Below.refl w.heap.size w).alloc (Nat.le_refl _) (.cells (madeCells #[.int .u8 0] K) 5))
  clear hK
  go_enter Tryf.func7, Tryf.ntmps7
  go_wp2_with fail
  clear hmk hKi
  generalize hwa : (w.alloc (.cells (madeCells #[.int .u8 0] K) 5)) = wa at HO HBL ⊢
  clear hwa
  go_loopw [3, 4] (fun v3 v4 wr => ∃ (k m : Nat), k ≤ n ∧ v4 = .int .i64 (k : Int) ∧ m ≤ 2 * k ∧ OwnB wr w.heap.size v3 m (dotL k) ∧ Below w.heap.size w wr) (fun _ v4 _ => n - (intOf v4).toNat)
  case atStart => exact ⟨0, 0, Nat.zero_le _, rfl, Nat.zero_le _, HO.out, HBL.out⟩
  case round =>
    obtain ⟨k, m, hk, rfl, hm, ho, hb⟩ := hrel
    clear HO HBL
    have HO := Lib.hid ho
    have HB := Lib.hid hb
    have hz := hb.size
    clear ho hb
    by_cases hlt : k < n
    · go_wp2_with (at_builtin; refine Hid.out ?_)
      refine Lib.hid ?_
      refine wp_app_one 46 (by decide) rfl (.tmp 13) (.tmp 14) rfl w.heap.size _ m (dotL k) rfl HO.out rfl (by omega) hz ?_
      intro ao4 k4 cp4 w4 hk4 ho4 hb4
      have HO4 := Lib.hid ho4
      have HB4 := Lib.hid (HB.out.trans hb4)
      have hz4 := HB4.out.size
      clear ho4 hb4 HO HB
      go_wp2_with (at_builtin; refine Hid.out ?_)
      refine Lib.hid ?_
      refine wp_app_one 32 (by decide) rfl (.tmp 16) (.tmp 17) rfl w.heap.size _ k4 (dotL k ++ [UInt8.ofNat 46]) rfl HO4.out rfl (by omega) hz4 ?_
      intro ao5 k5 cp5 w5 hk5 ho5 hb5
      rw [show dotL k ++ [UInt8.ofNat 46] ++ [UInt8.ofNat 32] = dotL (k + 1) by simp [dotL]] at ho5
      have HO5 := Lib.hid ho5
      have HB5 := Lib.hid (HB4.out.trans hb5)
      clear ho5 hb5 HO4 HB4
      go_wp2_with fail
      go_roundw
      case rel => exact ⟨k + 1, k5, hlt, by go_num, by omega, HO5.out, HB5.out⟩
      case measure => simp [intOf]; omega
    · obtain rfl : k = n := by omega
      have ho := HO.out
      obtain ⟨ao, cp, rfl, _, _⟩ := ho.val
      have hcv := ho.txt
      clear ho
      go_wp2_with fail
      go_ret
      exact ⟨rfl, HB.out⟩
theorem dots_cutF : ∀ j : Fin 32, ((⟨#[46, 32, 46, 32, 46, 32, 46, 32, 46, 32, 46, 32, 46, 32, 46, 32, 46, 32, 46, 32, 46, 32, 46, 32, 46, 32, 46, 32, 46, 32, 46, 32, 46, 32, 46, 32, 46, 32, 46, 32, 46, 32, 46, 32, 46, 32, 46, 32, 46, 32, 46, 32, 46, 32, 46, 32, 46, 32, 46, 32, 46, 32]⟩ : ByteArray).extract 0 (2 * j.val)).data = (dotL j.val).toArray := by decide +kernel
theorem dots_cut (j : Nat) (hj : j ≤ 31) : (⟨#[46, 32, 46, 32, 46, 32, 46, 32, 46, 32, 46, 32, 46, 32, 46, 32, 46, 32, 46, 32, 46, 32, 46, 32, 46, 32, 46, 32, 46, 32, 46, 32, 46, 32, 46, 32, 46, 32, 46, 32, 46, 32, 46, 32, 46, 32, 46, 32, 46, 32, 46, 32, 46, 32, 46, 32, 46, 32, 46, 32, 46, 32]⟩ : ByteArray).extract 0 (2 * j) = ⟨(dotL j).toArray⟩ :=
  ByteArray.ext (dots_cutF ⟨j, by omega⟩)
theorem dots_all : (⟨#[46, 32, 46, 32, 46, 32, 46, 32, 46, 32, 46, 32, 46, 32, 46, 32, 46, 32, 46, 32, 46, 32, 46, 32, 46, 32, 46, 32, 46, 32, 46, 32, 46, 32, 46, 32, 46, 32, 46, 32, 46, 32, 46, 32, 46, 32, 46, 32, 46, 32, 46, 32, 46, 32, 46, 32, 46, 32, 46, 32, 46, 32]⟩ : ByteArray) = ⟨(dotL 31).toArray⟩ := ByteArray.ext (by decide +kernel)
end Go.Proofs.YtbigghdoikbjlaaFmt
