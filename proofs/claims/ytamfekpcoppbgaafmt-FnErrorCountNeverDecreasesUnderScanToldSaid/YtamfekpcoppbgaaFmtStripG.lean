/-
  StripCR as a plain function, and that the program computes it. Conditions: at most 2^20 bytes.
-/
import Derived.Test.YtamfekpcoppbgaaFmtIdSG
namespace Go.Proofs.YtamfekpcoppbgaaFmt
open Go.RowKit
set_option maxRecDepth 100000
set_option linter.unusedVariables false

theorem st_info : (Tryf.prog.info? 5).map (fun i => (i.zero, i.size, i.bytes)) = some (some (.int .u8 0), 1, 1) := by kernel_rfl
theorem st_make (n : Nat) (hn : n ≤ 1048576) (w : World) : (Instr.makeSlice 22 (.int .i64 (n : Int)) (.int .i64 (n : Int))).run Tryf.prog w = .ok (.slice (some ⟨w.heap.size, 0, none⟩) n n) (w.alloc (.cells (madeCells #[.int .u8 0] n) 5)) := by
  obtain ⟨i0, hi, hz0, hz1, hz2⟩ := info_parts st_info
  have h := run_make (P := Tryf.prog) w 22 5 i0 _ Tryf.underlying22 hi hz0 .i64 .i64 n n (by omega) (Int.le_refl _) (by rw [hz2]; omega) (by omega)
  rw [h, hz1]
  simp [Value.cells]


/-- the bytes kept of the first k -/
def stp (b : List UInt8) (c : Bool) : Nat → List UInt8
  | 0 => []
  | k + 1 => if bt b k ≠ 13 ∨ (c = true ∧ 2 < (stp b c k).length ∧ bt (stp b c k) ((stp b c k).length - 1) = 42 ∧ k + 1 < b.length ∧ bt b (k + 1) = 47) then stp b c k ++ [b.getD k 0] else stp b c k
def strip (b : List UInt8) (c : Bool) : List UInt8 := stp b c b.length
theorem stp_len (b : List UInt8) (c : Bool) : ∀ k, (stp b c k).length ≤ k
  | 0 => Nat.le_refl _
  | k + 1 => by
    have := stp_len b c k
    unfold stp
    split
    · simp
      exact this
    · omega

/-- a row of n cells whose first are the bytes l -/
def padCells (l : List UInt8) (n : Nat) : Array Value := ((List.range n).map fun j => Value.int .u8 ((bt l j : Nat) : Int)).toArray
theorem pad_size (l : List UInt8) (n : Nat) : (padCells l n).size = n := by simp [padCells]
theorem pad_at (l : List UInt8) (n j : Nat) (h : j < n) : (padCells l n)[j]? = some (.int .u8 (bt l j : Int)) := by simp [padCells, h]
theorem pad_nil (n : Nat) : padCells [] n = madeCells #[.int .u8 0] n := by
  apply Array.ext_getElem?
  intro j
  by_cases h : j < n
  · simp [padCells, madeCells, h, Nat.mod_one, bt]
  · simp [padCells, madeCells, h]
theorem pad_put (l : List UInt8) (n : Nat) (x : UInt8) (h : l.length < n) : (padCells l n).setIfInBounds l.length (.int .u8 (x.toNat : Int)) = padCells (l ++ [x]) n := by
  apply Array.ext_getElem?
  intro j
  rw [Array.getElem?_setIfInBounds]
  by_cases hj : j < n
  · rw [pad_at (l ++ [x]) n j hj]
    by_cases hk : l.length = j
    · subst hk
      rw [if_pos rfl, if_pos (by rw [pad_size]; exact h)]
      simp [bt, List.getD]
    · rw [if_neg hk, pad_at l n j hj]
      congr 3
      unfold bt List.getD
      congr 2
      rcases Nat.lt_or_ge j l.length with h1 | h1
      · rw [List.getElem?_append_left h1]
      · rw [List.getElem?_append_right h1, List.getElem?_eq_none (by omega), List.getElem?_eq_none (by simp; omega)]
  · have e1 : ∀ m, (padCells m n)[j]? = none := fun m => Array.getElem?_eq_none (by rw [pad_size]; omega)
    rw [e1, e1, if_neg (by omega)]
theorem run_slh (W : World) (b n cap k : Nat) (hk : k ≤ cap) : (Instr.slice 22 (.slice (some ⟨b, 0, none⟩) n cap) none (some (.int .i64 (k : Int))) none).run Tryf.prog W = .ok (.slice (some ⟨b, 0, none⟩) k cap) W := by
  rw [run_slice_h W 22 _ n cap (by rw [el_u8]; exact Tryf.underlying22) .i64 _ (by omega) (by omega), el_u8]
  have hs : (sizeOf 5).run Tryf.prog W = .ok 1 W := by kernel_rfl
  rw [hs]
  simp [Result.andThen, sliced, Addr.add]
theorem run_slhA (W : World) (b n cap k : Nat) (hk : k ≤ cap) : (Instr.sliceAt 22 (.slice (some ⟨b, 0, none⟩) n cap) none (some (.int .i64 (k : Int))) none).run Tryf.prog W = .ok (.slice (some ⟨b, 0, none⟩) k cap) W := by
  rw [run_sliceAt_slice W _ _ _ _ _ (by rw [el_u8]; exact Tryf.underlying22)]
  exact run_slh W b n cap k hk

def StripPost (l : List UInt8) (w : World) (e : Ending) (w' : World) : Prop :=
  ∃ g cap, e = .returned (.slice (some ⟨g, 0, none⟩) l.length cap) ∧ l.length ≤ cap ∧ g < w'.heap.size ∧ (∀ i (h : i < l.length), w'.cell? ⟨g, 0 + i, none⟩ = some (.int .u8 (l[i].toNat : Int))) ∧ Below w.heap.size w w'

set_option maxHeartbeats 2000000 in
theorem strip_any (b0 o0 cap : Nat) (l : List UInt8) (c : Bool) (w : World) (hb0 : b0 < w.heap.size) (hc0 : ∀ i (h : i < l.length), w.cell? ⟨b0, o0 + i, none⟩ = some (.int .u8 (l[i].toNat : Int))) (hn : l.length ≤ 1048576) :
    Calls Tryf.prog 58 #[.slice (some ⟨b0, o0, none⟩) l.length cap, .bool c] w (StripPost (strip l c) w) := by
  have hmk := fun w => st_make l.length hn w
  have hstart := Blk.new w 5 (madeCells #[.int .u8 0] l.length)
  rw [← pad_nil] at hstart hmk
  have hbs : Below w.heap.size w (w.alloc (.cells (padCells [] l.length) 5)) := (Below.refl _ _).alloc (Nat.le_refl _) _
  have HS := Lib.hid hstart
  have HB := Lib.hid hbs
  have HC := Lib.hid hc0
  clear hstart hbs hc0
  go_enter Tryf.func58, Tryf.ntmps58
  go_wp2
  go_loopw [6, 14] (fun i v wr => ∃ k : Nat, k ≤ l.length ∧ v = .int .i64 k ∧ i = .int .i64 ((stp l c k).length : Int) ∧ Blk wr w.heap.size 5 (padCells (stp l c k) l.length) ∧ Below w.heap.size w wr) (fun _ v _ => l.length - (intOf v).toNat)
  case atStart => exact ⟨0, Nat.zero_le _, rfl, rfl, HS.out, HB.out⟩
  case round =>
    obtain ⟨k, hk, rfl, rfl, hblk, hbel⟩ := hrel
    have hkl := stp_len l c k
    clear HS HB hmk
    by_cases hlt : k < l.length
    · have tl : decide ((k : Int) < (l.length : Int)) = true := by simpa using hlt
      have hck : wr.cell? ⟨b0, o0 + k, none⟩ = some (.int .u8 (bt l k : Int)) := by
        rw [hbel.cell (p := ⟨b0, o0 + k, none⟩) hb0, HC.out k hlt]
        simp [bt, hlt, List.getD]
      have hz := bt_lt l k
      have hstep : stp l c (k + 1) = if bt l k ≠ 13 ∨ (c = true ∧ 2 < (stp l c k).length ∧ bt (stp l c k) ((stp l c k).length - 1) = 42 ∧ k + 1 < l.length ∧ bt l (k + 1) = 47) then stp l c k ++ [l.getD k 0] else stp l c k := rfl
      have hcw : wr.cell? ⟨w.heap.size, (stp l c k).length, none⟩ = some (.int .u8 (bt (stp l c k) (stp l c k).length : Int)) := by rw [hblk.cell, pad_at _ _ _ (by omega)]
      have hcw1 : 0 < (stp l c k).length → wr.cell? ⟨w.heap.size, (stp l c k).length - 1, none⟩ = some (.int .u8 (bt (stp l c k) ((stp l c k).length - 1) : Int)) := fun _ => by rw [hblk.cell, pad_at _ _ _ (by omega)]
      have hfz := hblk.free (stp l c k).length
      have hput := hblk.put (stp l c k).length (.int .u8 ((l.getD k 0).toNat : Int))
      rw [pad_put _ _ _ (by omega)] at hput
      have hbel2 : Below w.heap.size w (wr.setCell ⟨w.heap.size, (stp l c k).length, none⟩ (.int .u8 ((l.getD k 0).toNat : Int))) := hbel.setCell (Nat.le_refl _) _
      have ebt : (l.getD k 0).toNat = bt l k := rfl
      rw [ebt] at hput hbel2
      have hne : (b0 == w.heap.size) = false := by simp; omega
      have EN := Lib.hid hput
      have EB := Lib.hid hbel2
      have HK0 := Lib.hid hblk
      have HB0 := Lib.hid hbel
      have HST := Lib.hid hstep
      have hc1 : k + 1 < l.length → wr.cell? ⟨b0, o0 + (k + 1), none⟩ = some (.int .u8 (bt l (k + 1) : Int)) := fun h => by
        rw [hbel.cell (p := ⟨b0, o0 + (k + 1), none⟩) hb0, HC.out (k + 1) h]
        simp [bt, h, List.getD]
      have keep : Hid (bt l k ≠ 13 ∨ (c = true ∧ 2 < (stp l c k).length ∧ bt (stp l c k) ((stp l c k).length - 1) = 42 ∧ k + 1 < l.length ∧ bt l (k + 1) = 47) → (stp l c (k + 1)).length = (stp l c k).length + 1 ∧ stp l c (k + 1) = stp l c k ++ [l.getD k 0]) := Lib.hid fun h => by
        rw [HST.out, if_pos h]
        exact ⟨by simp, rfl⟩
      have drop : Hid (¬ (bt l k ≠ 13 ∨ (c = true ∧ 2 < (stp l c k).length ∧ bt (stp l c k) ((stp l c k).length - 1) = 42 ∧ k + 1 < l.length ∧ bt l (k + 1) = 47)) → stp l c (k + 1) = stp l c k) := Lib.hid fun h => by
        rw [HST.out, if_neg h]
      clear hstep ebt hput hbel2 hblk hbel HST
      obtain ⟨m, hm⟩ : ∃ m, (stp l c k).length = m := ⟨_, rfl⟩
      rw [hm] at hcw hcw1 hfz keep drop EN EB hkl ⊢
      generalize hz1 : bt (stp l c k) m = z1 at hcw
      generalize hz2 : bt (stp l c k) (m - 1) = z2 at hcw1 keep drop
      generalize hzk : bt l k = zk at hck hz keep drop EN EB
      generalize hzk1 : bt l (k + 1) = zk1 at hc1 keep drop
      have hbnd : z2 < 256 := by rw [← hz2]; exact bt_lt _ _
      have HM := Lib.hid hm
      clear hm hz1 hz2 hzk hzk1
      by_cases h13 : zk = 13
      rotate_left
      · have t0 : ((zk : Int) != 13) = true := by simp; omega
        have hkp := keep.out (Or.inl h13)
        have HKP := Lib.hid hkp
        clear hkp keep drop h13 hcw1 hc1
        go_wp2
        go_roundw
        case rel => exact ⟨k + 1, by omega, by go_num, by rw [HKP.out.1]; go_num, by rw [HKP.out.2]; exact EN.out, EB.out⟩
        case measure => simp [intOf]; omega
      have t0 : ((zk : Int) != 13) = false := by simp [h13]
      rcases c with _ | _
      · have HDP := Lib.hid (drop.out (by rintro (h | h); · exact h h13
                                          · cases h.1))
        clear keep drop h13 hcw1 hc1
        go_wp2
        go_roundw
        case rel => exact ⟨k + 1, by omega, by go_num, by rw [HDP.out, HM.out] <;> go_num, by rw [HDP.out]; exact HK0.out, HB0.out⟩
        case measure => simp [intOf]; omega
      by_cases hm2 : 2 < m
      rotate_left
      · have t1 : decide ((m : Int) > 2) = false := by simp; omega
        have HDP := Lib.hid (drop.out (by rintro (h | h); · exact h h13
                                          · exact hm2 h.2.1))
        clear keep drop h13 hcw1 hc1
        go_wp2
        go_roundw
        case rel => exact ⟨k + 1, by omega, by go_num, by rw [HDP.out, HM.out] <;> go_num, by rw [HDP.out]; exact HK0.out, HB0.out⟩
        case measure => simp [intOf]; omega
      obtain ⟨m', rfl⟩ : ∃ m', m = m' + 1 := ⟨m - 1, by omega⟩
      have hcm := hcw1 (by omega)
      rw [Nat.add_sub_cancel] at hcm
      have t1 : decide (((m' + 1 : Nat) : Int) > 2) = true := by simp; omega
      by_cases h42 : z2 = 42
      rotate_left
      · have t2 : ((z2 : Int) == 42) = false := by simp; omega
        have HDP := Lib.hid (drop.out (by rintro (h | h); · exact h h13
                                          · exact h42 h.2.2.1))
        clear keep drop h13 hcw1 hc1 h42
        go_wp2
        go_roundw
        case rel => exact ⟨k + 1, by omega, by go_num, by rw [HDP.out, HM.out] <;> go_num, by rw [HDP.out]; exact HK0.out, HB0.out⟩
        case measure => simp [intOf]; omega
      have t2 : ((z2 : Int) == 42) = true := by simp [h42]
      by_cases hkn : k + 1 < l.length
      rotate_left
      · have t3 : decide ((k : Int) + 1 < (l.length : Int)) = false := by simp; omega
        have HDP := Lib.hid (drop.out (by rintro (h | h); · exact h h13
                                          · exact hkn h.2.2.2.1))
        clear keep drop h13 hcw1 hc1 h42
        go_wp2
        go_roundw
        case rel => exact ⟨k + 1, by omega, by go_num, by rw [HDP.out, HM.out] <;> go_num, by rw [HDP.out]; exact HK0.out, HB0.out⟩
        case measure => simp [intOf]; omega
      have t3 : decide ((k : Int) + 1 < (l.length : Int)) = true := by simp; omega
      have hc2 := hc1 hkn
      by_cases h47 : zk1 = 47
      rotate_left
      · have t4 : ((zk1 : Int) == 47) = false := by simp; omega
        have HDP := Lib.hid (drop.out (by rintro (h | h); · exact h h13
                                          · exact h47 h.2.2.2.2))
        clear keep drop h13 hcw1 hc1 h42 h47
        go_wp2
        go_roundw
        case rel => exact ⟨k + 1, by omega, by go_num, by rw [HDP.out, HM.out] <;> go_num, by rw [HDP.out]; exact HK0.out, HB0.out⟩
        case measure => simp [intOf]; omega
      have t4 : ((zk1 : Int) == 47) = true := by simp [h47]
      have HKP := Lib.hid (keep.out (Or.inr ⟨rfl, hm2, h42, hkn, h47⟩))
      clear keep drop h13 hcw1 hc1 h42 h47
      go_wp2
      go_roundw
      case rel => exact ⟨k + 1, by omega, by go_num, by rw [HKP.out.1]; go_num, by rw [HKP.out.2]; exact EN.out, EB.out⟩
      case measure => simp [intOf]; omega
    · obtain rfl : k = l.length := by omega
      have tl : decide ((l.length : Int) < (l.length : Int)) = false := by simp
      have hsl := fun W => run_slh W w.heap.size l.length l.length (stp l c l.length).length (by omega)
      have hslA := fun W => run_slhA W w.heap.size l.length l.length (stp l c l.length).length (by omega)
      have HX := Lib.hid hblk
      have HY := Lib.hid hbel
      clear hblk hbel
      go_wp2
      go_ret
      refine ⟨w.heap.size, l.length, rfl, hkl, HX.out.lt, fun i hi => ?_, HY.out⟩
      unfold strip at hi ⊢
      rw [HX.out.cell, Nat.zero_add, pad_at _ _ i (by omega)]
      simp [bt, hi, List.getD]

end Go.Proofs.YtamfekpcoppbgaaFmt
