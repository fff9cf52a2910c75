/-
  The law's own clone of a byte slice. Conditions: at most 2^20 bytes.
-/
import Derived.Test.YtamfekpcoppbgaaFmtScanW
import Derived.Test.YtamfekpcoppbgaaFmtBytes
import Derived.Lib.SliceRun
namespace Go.Proofs.YtamfekpcoppbgaaFmt
open Go.RowKit
set_option maxRecDepth 100000
set_option linter.unusedVariables false

/-- the copy with its first k bytes written -/
def clCells (l : List UInt8) (k : Nat) : Array Value := ((List.range l.length).map fun j => if j < k then Value.int .u8 ((l.getD j 0).toNat : Int) else .int .u8 0).toArray
theorem cl_size (l : List UInt8) (k : Nat) : (clCells l k).size = l.length := by simp [clCells]
theorem cl_at (l : List UInt8) (k j : Nat) (h : j < l.length) : (clCells l k)[j]? = some (if j < k then Value.int .u8 ((l.getD j 0).toNat : Int) else .int .u8 0) := by
  simp [clCells, h]
theorem cl_zero (l : List UInt8) : clCells l 0 = madeCells #[.int .u8 0] l.length := by
  apply Array.ext_getElem?
  intro j
  by_cases h : j < l.length
  · simp [clCells, madeCells, h, Nat.mod_one]
  · simp [clCells, madeCells, h]
theorem cl_put (l : List UInt8) (k : Nat) (h : k < l.length) : (clCells l k).setIfInBounds k (.int .u8 ((l.getD k 0).toNat : Int)) = clCells l (k + 1) := by
  apply Array.ext_getElem?
  intro j
  rw [Array.getElem?_setIfInBounds]
  by_cases hj : j < l.length
  · rw [cl_at l (k + 1) j hj]
    by_cases hk : k = j
    · subst hk
      rw [if_pos rfl, if_pos (by rw [cl_size]; exact h), if_pos (by omega)]
    · rw [if_neg hk, cl_at l k j hj]
      by_cases h1 : j < k
      · rw [if_pos h1, if_pos (by omega)]
      · rw [if_neg h1, if_neg (by omega)]
  · have e1 : ∀ m, (clCells l m)[j]? = none := fun m => Array.getElem?_eq_none (by rw [cl_size]; omega)
    rw [e1, e1, if_neg (by omega)]
theorem cl_info : (Tryf.prog.info? 5).map (fun i => (i.zero, i.size, i.bytes)) = some (some (.int .u8 0), 1, 1) := by kernel_rfl
theorem cl_make (n : Nat) (hn : n ≤ 1048576) (w : World) : (Instr.makeSlice 22 (.int .i64 (n : Int)) (.int .i64 (n : Int))).run Tryf.prog w = .ok (.slice (some ⟨w.heap.size, 0, none⟩) n n) (w.alloc (.cells (madeCells #[.int .u8 0] n) 5)) := by
  obtain ⟨i0, hi, hz0, hz1, hz2⟩ := info_parts cl_info
  have h := run_make (P := Tryf.prog) w 22 5 i0 _ Tryf.underlying22 hi hz0 .i64 .i64 n n (by omega) (Int.le_refl _) (by rw [hz2]; omega) (by omega)
  rw [h, hz1]
  simp [Value.cells]

def ClonePost (l : List UInt8) (w : World) (e : Ending) (w' : World) : Prop :=
  ∃ oB cap, e = .returned (.slice oB l.length cap) ∧ l.length ≤ cap ∧ SrcAt w' w'.heap.size oB l ∧ (oB = none → l = [] ∧ cap = 0) ∧ Below w.heap.size w w'

set_option maxHeartbeats 1000000 in
theorem clone_any (oA : Option Addr) (cap : Nat) (l : List UInt8) (w : World) (hsrc : SrcAt w w.heap.size oA l) (hnil : oA = none → l = [] ∧ cap = 0) (hn : l.length ≤ 1048576) :
    Calls Tryf.prog 9 #[.slice oA l.length cap] w (ClonePost l w) := by
  have hq := fun w => Lib.run_eql_slice_nil (P := Tryf.prog) w 22 5 oA l.length cap 0 0 Tryf.underlying22
  rcases oA with _ | p
  · obtain ⟨rfl, rfl⟩ := hnil rfl
    simp only [Option.isNone_none, List.length_nil] at hq
    go_enter Tryf.func9, Tryf.ntmps9
    go_wp2
    go_ret
    exact ⟨none, 0, rfl, Nat.le_refl _, Or.inl rfl, fun _ => ⟨rfl, rfl⟩, Below.refl _ _⟩
  · simp only [Option.isNone_some] at hq
    have hmk := fun w => cl_make l.length hn w
    have hstart := Blk.new w 5 (clCells l 0)
    have hb0 : Below w.heap.size w (w.alloc (.cells (clCells l 0) 5)) := (Below.refl _ _).alloc (Nat.le_refl _) _
    rw [cl_zero] at hb0
    rw [show Blk (w.alloc (.cells (clCells l 0) 5)) w.heap.size 5 (clCells l 0) = Blk (w.alloc (.cells (madeCells #[.int .u8 0] l.length) 5)) w.heap.size 5 (clCells l 0) by rw [cl_zero]] at hstart
    have HR := Lib.hid hsrc
    have HS := Lib.hid hstart
    have HB := Lib.hid hb0
    clear hsrc hstart hb0 hnil
    go_enter Tryf.func9, Tryf.ntmps9
    go_wp2
    go_loopw [4] (fun i wr => ∃ j : Nat, j ≤ l.length ∧ i = .int .i64 j ∧ Blk wr w.heap.size 5 (clCells l j) ∧ Below w.heap.size w wr) (fun i _ => l.length - (intOf i).toNat)
    case atStart => exact ⟨0, Nat.zero_le _, rfl, HS.out, HB.out⟩
    case round =>
      obtain ⟨j, hj, rfl, hblk, hbel⟩ := hrel
      clear HS HB hmk
      by_cases hlt : j < l.length
      · obtain ⟨b, o, e, hb, hc⟩ := HR.out.at_ (by omega)
        obtain rfl := Option.some.inj e
        have hc1 : wr.cell? ⟨b, o + j, none⟩ = some (.int .u8 ((l.getD j 0).toNat : Int)) := by
          rw [(hbel.cell (p := ⟨b, o + j, none⟩) hb), hc j hlt]
          simp [List.getD, hlt]
        have hne : (b == w.heap.size) = false := by simp; omega
        have hu := bt_lt l j
        unfold bt at hu
        have hc2 : wr.cell? ⟨w.heap.size, j, none⟩ = some (.int .u8 0) := by rw [hblk.cell, cl_at l j j hlt, if_neg (by omega)]
        have hf := hblk.free j
        have hset := hblk.put j (.int .u8 ((l.getD j 0).toNat : Int))
        rw [cl_put l j hlt] at hset
        have hbel2 : Below w.heap.size w (wr.setCell ⟨w.heap.size, j, none⟩ (.int .u8 ((l.getD j 0).toNat : Int))) := hbel.setCell (Nat.le_refl _) _
        generalize (l.getD j 0).toNat = z at *
        have HX := Lib.hid hset
        have HY := Lib.hid hbel2
        clear hset hbel2 hblk hbel hc e
        go_wp2
        go_roundw
        case rel => exact ⟨j + 1, by omega, by go_num, HX.out, HY.out⟩
        case measure => simp [intOf]; omega
      · obtain rfl : j = l.length := by omega
        have HX := Lib.hid hblk
        have HY := Lib.hid hbel
        clear hblk hbel
        go_wp2
        go_ret
        refine ⟨some ⟨w.heap.size, 0, none⟩, l.length, rfl, Nat.le_refl _, Or.inr ⟨w.heap.size, 0, rfl, HX.out.lt, fun i hi => ?_⟩, (fun h => nomatch h), HY.out⟩
        rw [HX.out.cell, Nat.zero_add, cl_at l _ i hi, if_pos hi]
        simp [List.getD, hi]

end Go.Proofs.YtamfekpcoppbgaaFmt
