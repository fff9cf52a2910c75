/-
  The law's own zzRepeat, zzHex and zzParseHex. Conditions: as stated.
-/
import Derived.Test.YtfiinkdobcoihaaDoorFmIM
import Derived.Test.YtfiinkdobcoihaaDoorAppW
namespace Go.Proofs.YtfiinkdobcoihaaDoor
open Go.RowKit
set_option maxRecDepth 100000
set_option linter.unusedVariables false

def repC (n c k : Nat) : Array Value := ((List.range n).map fun j => if j < k then Value.int .u8 (c : Int) else .int .u8 0).toArray
theorem repC_size (n c k : Nat) : (repC n c k).size = n := by simp [repC]
theorem repC_at (n c k j : Nat) (h : j < n) : (repC n c k)[j]? = some (if j < k then Value.int .u8 (c : Int) else .int .u8 0) := by simp [repC, h]
theorem repC_zero (n c : Nat) : repC n c 0 = madeCells #[.int .u8 0] n := by
  apply Array.ext_getElem?
  intro j
  by_cases h : j < n
  · simp [repC, madeCells, h, Nat.mod_one]
  · simp [repC, madeCells, h]
theorem repC_put (n c k : Nat) (h : k < n) : (repC n c k).setIfInBounds k (.int .u8 (c : Int)) = repC n c (k + 1) := by
  apply Array.ext_getElem?
  intro j
  rw [Array.getElem?_setIfInBounds]
  by_cases hj : j < n
  · rw [repC_at n c (k + 1) j hj]
    by_cases hk : k = j
    · subst hk
      rw [if_pos rfl, if_pos (by rw [repC_size]; exact h), if_pos (by omega)]
    · rw [if_neg hk, repC_at n c k j hj]
      by_cases h1 : j < k
      · rw [if_pos h1, if_pos (by omega)]
      · rw [if_neg h1, if_neg (by omega)]
  · have e1 : ∀ m, (repC n c m)[j]? = none := fun m => Array.getElem?_eq_none (by rw [repC_size]; omega)
    rw [e1, e1, if_neg (by omega)]
theorem mkrep (n c : Nat) (hn : n ≤ 1048576) (w : World) : (Instr.makeSlice 36 (.int .i64 (n : Int)) (.int .i64 (n : Int))).run Tryd.prog w = .ok (.slice (some ⟨w.heap.size, 0, none⟩) n n) (w.alloc (.cells (repC n c 0) 5)) := by
  obtain ⟨i0, hi, hz0, hz1, hz2⟩ := info_parts u8_info
  have h := run_make (P := Tryd.prog) w 36 5 i0 _ Tryd.underlying36 hi hz0 .i64 .i64 n n (by omega) (Int.le_refl _) (by rw [hz2]; omega) (by omega)
  rw [h, hz1, repC_zero]
  simp [Value.cells]
set_option maxHeartbeats 1000000 in
theorem repeat_any (c : Nat) (hc : c < 256) (z : Int) (w : World) (h1 : -9223372036854775808 ≤ z) (h2 : z ≤ 65536) :
    Calls Tryd.prog 15 #[.int .u8 (c : Int), .int .i64 z] w fun e w' => e = .returned (.string ⟨(rep z.toNat (UInt8.ofNat c)).toArray⟩) ∧ Below w.heap.size w w' := by
  by_cases h0 : z ≤ 0
  · have e : rep z.toNat (UInt8.ofNat c) = [] := by rw [show z.toNat = 0 by omega]; rfl
    rw [e]
    clear e
    go_enter Tryd.func15, Tryd.ntmps15
    go_wp2_with fail
    go_ret
    exact ⟨rfl, Below.refl _ _⟩
  · obtain ⟨n, rfl⟩ : ∃ n : Nat, z = (n : Int) := ⟨z.toNat, by omega⟩
    rw [Int.toNat_natCast]
    have hmk := fun W => mkrep n c (by omega) W
    have HB0 : Hid (Blk (w.alloc (.cells (repC n c 0) 5)) w.heap.size 5 (repC n c 0)) := Lib.hid (Blk.new w _ _)
    have HL0 := Lib.hid ((Below.refl w.heap.size w).alloc (Nat.le_refl _) (.cells (repC n c 0) 5))
    go_enter Tryd.func15, Tryd.ntmps15
    go_wp2_with fail
    go_loopw [6] (fun i wr => ∃ j : Nat, j ≤ n ∧ i = .int .i64 (j : Int) ∧ Blk wr w.heap.size 5 (repC n c j) ∧ Below w.heap.size w wr) (fun i _ => n - (intOf i).toNat)
    case atStart => exact ⟨0, Nat.zero_le _, rfl, HB0.out, HL0.out⟩
    case round =>
      obtain ⟨j, hj, rfl, hb, hbl⟩ := hrel
      clear HB0 HL0 hmk
      by_cases hlt : j < n
      · have c1 : wr.cell? ⟨w.heap.size, j, none⟩ = some (.int .u8 0) := by rw [hb.cell, repC_at n c j j hlt, if_neg (by omega)]
        have f1 := hb.free j
        have hput := hb.put j (.int .u8 (c : Int))
        rw [repC_put n c j hlt] at hput
        have HP := Lib.hid hput
        have HL := Lib.hid (hbl.setCell (p := ⟨w.heap.size, j, none⟩) (Nat.le_refl _) (.int .u8 (c : Int)))
        clear hput hb hbl
        go_wp2_with fail
        go_roundw
        case rel => exact ⟨j + 1, hlt, by go_num, HP.out, HL.out⟩
        case measure => simp [intOf]; omega
      · obtain rfl : j = n := by omega
        have hcv := run_txt (rep j (UInt8.ofNat c)) w.heap.size 0 j wr (fun i hi => by
          rw [rep_len] at hi
          rw [Nat.zero_add, hb.cell, repC_at j c j i hi, if_pos hi]
          simp only [rep, List.getElem_replicate, UInt8.toNat_ofNat']
          rw [Nat.mod_eq_of_lt hc])
        rw [rep_len] at hcv
        have HL := Lib.hid hbl
        clear hb hbl
        go_wp2_with fail
        go_ret
        exact ⟨rfl, HL.out⟩
end Go.Proofs.YtfiinkdobcoihaaDoor
