/-
  The law's own zzRep and zzDec. Conditions: as stated.
-/
import Derived.Test.YtohcajfgmgpoeaaDoorFmIM
import Derived.Test.YtohcajfgmgpoeaaDoorAppW
namespace Go.Proofs.YtohcajfgmgpoeaaDoor
open Go.RowKit
set_option maxRecDepth 100000
set_option linter.unusedVariables false

def repC (n c k : Nat) : Array Value := ((List.range n).map fun j => if j < k then Value.int .u8 (c : Int) else .int .u8 0).toArray
theorem repC_size (n c k : Nat) : (repC n c k).size = n := by simp [repC]
theorem repC_at (n c k j : Nat) (h : j < n) : (repC n c k)[j]? = some (if j < k then Value.int .u8 (c : Int) else .int .u8 0) := by simp [repC, h]
theorem repC_zero (n c : Nat) : repC n c 0 = madeCells #[.int .u8 0] n := by
  apply Array.ext_getElem?
  intro j
  by_cases h : j < n
  · simp [repC, madeCells, h, Nat.mod_one]
  · simp [repC, madeCells, h]
theorem repC_put (n c k : Nat) (h : k < n) : (repC n c k).setIfInBounds k (.int .u8 (c : Int)) = repC n c (k + 1) := by
  apply Array.ext_getElem?
  intro j
  rw [Array.getElem?_setIfInBounds]
  by_cases hj : j < n
  · rw [repC_at n c (k + 1) j hj]
    by_cases hk : k = j
    · subst hk
      rw [if_pos rfl, if_pos (by rw [repC_size]; exact h), if_pos (by omega)]
    · rw [if_neg hk, repC_at n c k j hj]
      by_cases h1 : j < k
      · rw [if_pos h1, if_pos (by omega)]
      · rw [if_neg h1, if_neg (by omega)]
  · have e1 : ∀ m, (repC n c m)[j]? = none := fun m => Array.getElem?_eq_none (by rw [repC_size]; omega)
    rw [e1, e1, if_neg (by omega)]
theorem mkrep (n c : Nat) (hn : n ≤ 1048576) (w : World) : (Instr.makeSlice 22 (.int .i64 (n : Int)) (.int .i64 (n : Int))).run Tryd.prog w = .ok (.slice (some ⟨w.heap.size, 0, none⟩) n n) (w.alloc (.cells (repC n c 0) 5)) := by
  obtain ⟨i0, hi, hz0, hz1, hz2⟩ := info_parts u8_info
  have h := run_make (P := Tryd.prog) w 22 5 i0 _ Tryd.underlying22 hi hz0 .i64 .i64 n n (by omega) (Int.le_refl _) (by rw [hz2]; omega) (by omega)
  rw [h, hz1, repC_zero]
  simp [Value.cells]
set_option maxHeartbeats 1000000 in
theorem repeat_any (c : Nat) (hc : c < 256) (z : Int) (w : World) (h1 : -9223372036854775808 ≤ z) (h2 : z ≤ 65536) :
    Calls Tryd.prog 14 #[.int .u8 (c : Int), .int .i64 z] w fun e w' => e = .returned (.string ⟨(rep z.toNat (UInt8.ofNat c)).toArray⟩) ∧ Below w.heap.size w w' := by
  by_cases h0 : z ≤ 0
  · have e : rep z.toNat (UInt8.ofNat c) = [] := by rw [show z.toNat = 0 by omega]; rfl
    rw [e]
    clear e
    go_enter Tryd.func14, Tryd.ntmps14
    go_wp2_with fail
    go_ret
    exact ⟨rfl, Below.refl _ _⟩
  · obtain ⟨n, rfl⟩ : ∃ n : Nat, z = (n : Int) := ⟨z.toNat, by omega⟩
    rw [Int.toNat_natCast]
    have hmk := fun W => mkrep n c (by omega) W
    have HB0 : Hid (Blk (w.alloc (.cells (repC n c 0) 5)) w.heap.size 5 (repC n c 0)) := Lib.hid (Blk.new w _ _)
    have HL0 := Lib.hid ((Below.refl w.heap.size w).alloc (Nat.le_refl _) (.cells (repC n c 0) 5))
    go_enter Tryd.func14, Tryd.ntmps14
    go_wp2_with fail
    go_loopw [6] (fun i wr => ∃ j : Nat, j ≤ n ∧ i = .int .i64 (j : Int) ∧ Blk wr w.heap.size 5 (repC n c j) ∧ Below w.heap.size w wr) (fun i _ => n - (intOf i).toNat)
    case atStart => exact ⟨0, Nat.zero_le _, rfl, HB0.out, HL0.out⟩
    case round =>
      obtain ⟨j, hj, rfl, hb, hbl⟩ := hrel
      clear HB0 HL0 hmk
      by_cases hlt : j < n
      · have c1 : wr.cell? ⟨w.heap.size, j, none⟩ = some (.int .u8 0) := by rw [hb.cell, repC_at n c j j hlt, if_neg (by omega)]
        have f1 := hb.free j
        have hput := hb.put j (.int .u8 (c : Int))
        rw [repC_put n c j hlt] at hput
        have HP := Lib.hid hput
        have HL := Lib.hid (hbl.setCell (p := ⟨w.heap.size, j, none⟩) (Nat.le_refl _) (.int .u8 (c : Int)))
        clear hput hb hbl
        go_wp2_with fail
        go_roundw
        case rel => exact ⟨j + 1, hlt, by go_num, HP.out, HL.out⟩
        case measure => simp [intOf]; omega
      · obtain rfl : j = n := by omega
        have hcv := run_txt (rep j (UInt8.ofNat c)) w.heap.size 0 j wr (fun i hi => by
          rw [rep_len] at hi
          rw [Nat.zero_add, hb.cell, repC_at j c j i hi, if_pos hi]
          simp only [rep, List.getElem_replicate, UInt8.toNat_ofNat']
          rw [Nat.mod_eq_of_lt hc])
        rw [rep_len] at hcv
        have HL := Lib.hid hbl
        clear hb hbl
        go_wp2_with fail
        go_ret
        exact ⟨rfl, HL.out⟩
def bufC (t : List UInt8) : Array Value := ((List.replicate (20 - t.length) (0 : UInt8) ++ t).map fun c => Value.int .u8 c.toNat).toArray
theorem bufC_set (t : List UInt8) (j : Nat) (d : UInt8) (h : j + 1 + t.length = 20) : (bufC t).setIfInBounds j (.int .u8 d.toNat) = bufC (d :: t) := by
  have e1 : 20 - t.length = j + 1 := by omega
  have e2 : 20 - (d :: t).length = j := by simp; omega
  unfold bufC
  rw [e1, e2]
  simp [List.replicate_succ', List.setIfInBounds_toArray]
theorem bufC_at (t : List UInt8) (j : Nat) (i : Nat) (h : j + t.length = 20) (hi : i < t.length) : (bufC t)[j + i]? = some (.int .u8 t[i].toNat) := by
  have e1 : 20 - t.length = j := by omega
  unfold bufC
  rw [e1]
  simp [hi]
theorem bufC_blank (t : List UInt8) (j : Nat) (h : j + 1 + t.length = 20) : (bufC t)[j]? = some (.int .u8 0) := by
  have e1 : 20 - t.length = j + 1 := by omega
  unfold bufC
  rw [e1]
  simp [List.getElem?_append]
theorem al20 : Tryd.prog.arrayLen 45 = 20 := by kernel_rfl
theorem el20 : Tryd.prog.elem 45 = 5 := by kernel_rfl
theorem run_buf20 (W : World) (g j : Nat) (hj : j < 20) : (Instr.sliceAt 45 (.pointer (some ⟨g, 0, none⟩)) (some (.int .i64 (j : Int))) none none).run Tryd.prog W = .ok (.slice (some ⟨g, j, none⟩) (20 - j) (20 - j)) W := by
  rw [run_sliceAt_array_l W 45 _ (by rw [al20, el20]; exact Tryd.underlying45) .i64 _ (by omega) (by rw [al20]; omega), el20]
  have hs : (sizeOf 5).run Tryd.prog W = .ok 1 W := by kernel_rfl
  rw [hs, al20]
  have e0 : ¬ (20 = j) := by omega
  simp [Result.andThen, slicedAt, Addr.add, e0]
  omega
theorem run_str20 (W : World) (g j : Nat) (t : List UInt8) (hj : j + t.length = 20) (hb : Blk W g 45 (bufC t)) :
    (convert 22 9 (.slice (some ⟨g, j, none⟩) (20 - j) (20 - j))).run Tryd.prog W = .ok (.string ⟨t.toArray⟩) W := by
  have e : 20 - j = t.length := by omega
  rw [e]
  refine run_convert_bytes_back W _ _ 5 ⟨g, j, none⟩ _ t Tryd.underlying22 Tryd.underlying5 Tryd.underlying9 (fun i hi => ?_)
  have ea : (⟨g, j, none⟩ : Addr).add i = ⟨g, j + i, none⟩ := by unfold Addr.add; split <;> simp_all
  rw [ea, hb.cell]
  exact bufC_at t j i hj hi
theorem hx10 (d : Nat) (h : d < 10) : ((hx d).toNat : Int) = 48 + (d : Int) := by
  rw [hx_val d (by omega), if_pos h]
  omega
set_option maxHeartbeats 1000000 in
theorem dec_any (u : Nat) (hu : u < 18446744073709551616) (w : World) :
    Calls Tryd.prog 9 #[.int .u64 (u : Int)] w fun e w' => e = .returned (.string ⟨(digI 10 u).toArray⟩) ∧ Below w.heap.size w w' := by
  by_cases h0 : u = 0
  · subst h0
    have e : digI 10 0 = [48] := rfl
    rw [e]
    clear e
    go_enter Tryd.func9, Tryd.ntmps9
    go_wp2_with fail
    go_ret
    exact ⟨rfl, Below.refl _ _⟩
  have t0 : ((u : Int) == 0) = false := by simp; omega
  have HDL := digI_len 10 u
  have HU : Hid (u < 10 ^ (19 + 1)) := Lib.hid (Nat.lt_trans hu (by decide))
  go_enter Tryd.func9, Tryd.ntmps9
  go_wp2_with fail
  go_loopw [0, 4] (fun v0 v4 wr => ∃ (l : List UInt8) (x i : Nat), v0 = .int .u64 (x : Int) ∧ v4 = .int .i64 (i : Int) ∧ i + l.length = 20 ∧ ((x = 0 ∧ l = digI 10 u) ∨ (0 < x ∧ ∃ k, l.length + k = 19 ∧ x < 10 ^ (k + 1) ∧ dgs 10 k x l = digI 10 u)) ∧ x < 18446744073709551616 ∧ Blk wr w.heap.size 45 (bufC l) ∧ Below w.heap.size w wr) (fun v0 _ _ => (intOf v0).toNat)
  case atStart => exact ⟨[], u, 20, rfl, rfl, rfl, Or.inr ⟨by omega, 19, rfl, HU.out, rfl⟩, hu, (MapKept.heap_alloc w _).1, (Below.refl _ _).alloc (Nat.le_refl _) _⟩
  case round =>
    obtain ⟨l, x, i, rfl, rfl, hi, hx', hx64, hblk, hbel⟩ := hrel
    rcases hx' with ⟨rfl, rfl⟩ | ⟨hx0, k, hlk, hxk, hd⟩
    · have hcv := run_str20 _ _ i _ hi hblk
      have hsl := fun W => run_buf20 W w.heap.size i (by omega)
      have HB := Lib.hid hbel
      clear hblk hbel
      go_wp2_with fail
      go_ret
      exact ⟨rfl, HB.out⟩
    · obtain ⟨j, hj⟩ : ∃ j, i = j + 1 := ⟨i - 1, by omega⟩
      have hji : (i : Int) - 1 = (j : Int) := by omega
      have hc : wr.cell? ⟨w.heap.size, j, none⟩ = some (.int .u8 0) := by rw [hblk.cell]; exact bufC_blank l j (by omega)
      have hf := hblk.free j
      have hset := hblk.put j (.int .u8 ((hx (x % 10)).toNat : Int))
      rw [bufC_set l j _ (by omega), hx10 _ (by omega)] at hset
      rw [show (((x % 10 : Nat)) : Int) = (x : Int) % 10 by omega] at hset
      have HS := Lib.hid hset
      have HB := Lib.hid (hbel.setCell (p := ⟨w.heap.size, j, none⟩) (Nat.le_refl _) (.int .u8 (48 + (x : Int) % 10)))
      have hxp : (0 : Int) < (x : Int) := by omega
      have HN : Hid ((x / 10 = 0 ∧ hx (x % 10) :: l = digI 10 u) ∨ (0 < x / 10 ∧ ∃ k, (hx (x % 10) :: l).length + k = 19 ∧ x / 10 < 10 ^ (k + 1) ∧ dgs 10 k (x / 10) (hx (x % 10) :: l) = digI 10 u)) := Lib.hid (by
        by_cases h10 : 10 ≤ x
        · rcases k with _ | k
          · simp at hxk
            omega
          · refine Or.inr ⟨by omega, k, by simp only [List.length_cons]; omega, ?_, ?_⟩
            · rw [Nat.pow_succ] at hxk
              exact Nat.div_lt_of_lt_mul (by rw [Nat.mul_comm]; exact hxk)
            · rw [← hd]
              show _ = (if 10 ≤ x then dgs 10 k (x / 10) (hx (x % 10) :: l) else hx x :: l)
              rw [if_pos h10]
        · refine Or.inl ⟨by omega, ?_⟩
          rw [← hd, Nat.mod_eq_of_lt (by omega)]
          rcases k with _ | k
          · rfl
          · show _ = (if 10 ≤ x then dgs 10 k (x / 10) (hx (x % 10) :: l) else hx x :: l)
            rw [if_neg h10])
      have hjl : j + (l.length + 1) = 20 := by omega
      clear hset hblk hbel hd hxk hj hi
      go_wp2_with fail
      go_roundw
      case rel => exact ⟨hx (x % 10) :: l, x / 10, j, by first | rfl | (congr 1; omega), rfl, by simp only [List.length_cons]; omega, HN.out, by omega, HS.out, HB.out⟩
      case measure => simp [intOf]; omega
end Go.Proofs.YtohcajfgmgpoeaaDoor
