/-
  Rows of strings and of ints in memory; arguments opened; the law's own clones. Conditions: as stated.
-/
import Derived.Test.YthlhfhcjfikflaaI64
import Derived.SliceStrings
import Derived.Lib.SliceRun
namespace Go.Proofs.Ythlhfhcjfikflaa
open Go.ChangeShapes Go.WideShapes Go.ChangeAt Go.RowKit
set_option maxRecDepth 100000
set_option linter.unusedVariables false

def strV (x : List UInt8) : Value := .string ⟨x.toArray⟩
def intV (x : Int) : Value := .int .i64 x
/-- a row of values in memory, below block B -/
def RowAt {α : Type} (f : α → Value) (w : World) (B : Nat) (oA : Option Addr) (l : List α) : Prop :=
  l = [] ∨ ∃ b o, oA = some ⟨b, o, none⟩ ∧ b < B ∧ ∀ i (h : i < l.length), w.cell? ⟨b, o + i, none⟩ = some (f l[i])
theorem RowAt.keep {α : Type} {f : α → Value} {w w' : World} {B : Nat} {oA : Option Addr} {l : List α} (h : RowAt f w B oA l) (hk : ∀ k, k < B → w'.heap[k]? = w.heap[k]?) : RowAt f w' B oA l := by
  rcases h with h | ⟨b, o, e, hb, hc⟩
  · exact Or.inl h
  · exact Or.inr ⟨b, o, e, hb, fun i hi => (World.cell?_of_block (w := w) (hk b hb)).trans (hc i hi)⟩
theorem RowAt.more {α : Type} {f : α → Value} {w : World} {B B' : Nat} {oA : Option Addr} {l : List α} (h : RowAt f w B oA l) (hB : B ≤ B') : RowAt f w B' oA l := by
  rcases h with h | ⟨b, o, e, hb, hc⟩
  · exact Or.inl h
  · exact Or.inr ⟨b, o, e, by omega, hc⟩
theorem RowAt.at_ {α : Type} {f : α → Value} {w : World} {B : Nat} {oA : Option Addr} {l : List α} (h : RowAt f w B oA l) (hp : 0 < l.length) :
    ∃ b o, oA = some ⟨b, o, none⟩ ∧ b < B ∧ ∀ i (h : i < l.length), w.cell? ⟨b, o + i, none⟩ = some (f l[i]) := by
  rcases h with h | h
  · rw [h] at hp
    simp at hp
  · exact h
theorem RowAt.below {α : Type} {f : α → Value} {w w' : World} {oA : Option Addr} {l : List α} (h : RowAt f w w.heap.size oA l) (hb : Below w.heap.size w w') : RowAt f w' w'.heap.size oA l := (h.keep hb.block).more hb.size
theorem cells_str : Try.prog.cellsOf 9 = 1 := by kernel_rfl
theorem cells_int : Try.prog.cellsOf 2 = 1 := by kernel_rfl
/-- AN ARGUMENT OF TYPE []int -/
theorem open_intz {H : Type} {enc : TypeId × Value → H} {W : World} {base : Nat} {v : Value} {d : DataW H} {p : List MemPlace}
    (hv : Value.okWide Try.prog W .any base 23 v) (h : DataW.Trod enc Try.prog W 0 (fun _ => true) true 23 v d p) (hlt : ∀ x ∈ p, x.block < W.heap.size) :
    ∃ (oA : Option Addr) (cap : Nat) (l : List Int), v = .slice oA l.length cap ∧ l.length ≤ cap ∧ cap ≤ maxLen ∧ RowAt intV W W.heap.size oA l ∧ (oA = none → l = [] ∧ cap = 0) ∧ ∀ z ∈ l, -9223372036854775808 ≤ z ∧ z ≤ 9223372036854775807 := by
  obtain ⟨a0, len, cap, rfl⟩ := okWide_slice Try.underlying23 hv
  obtain ⟨fuel, hf⟩ := h
  rcases open_ints Try.underlying23 Try.underlying2 cells_int hf with ⟨hcs, hx⟩ | ⟨a, len', cap', zs, hcs, _, hl, hm, hz, hx, hcell, hwz⟩
  · simp [Value.cells] at hcs
    obtain ⟨rfl, rfl, rfl⟩ := hcs
    exact ⟨none, 0, [], rfl, Nat.le_refl _, Nat.zero_le _, Or.inl rfl, fun _ => ⟨rfl, rfl⟩, fun z hz => nomatch hz⟩
  · simp [Value.cells] at hcs
    obtain ⟨rfl, rfl, rfl⟩ := hcs
    simp only [if_true] at hz
    have hx2 := (Prod.mk.inj hx).2
    have hlen : (zs.take len).length = len := by simp; omega
    have hwb : ∀ z ∈ zs, -9223372036854775808 ≤ z ∧ z ≤ 9223372036854775807 := by
      intro z hz
      have hw := hwz z hz
      simpa [Lit.wf, IntKind.min, IntKind.max, IntKind.signed, IntKind.bits] using hw
    refine ⟨some a, cap, zs.take len, by rw [hlen], by omega, hm, ?_, (fun h => nomatch h), fun z hz => hwb z (List.mem_of_mem_take hz)⟩
    rcases Nat.eq_zero_or_pos len with h0 | h0
    · left
      subst h0
      simp
    · right
      obtain ⟨b, off, rfl, hc⟩ := ints_at hcell (by omega)
      refine ⟨b, off, rfl, ?_, fun i hi => ?_⟩
      · have hm0 : MemPlace.cell b (off + 0) ∈ MemPlace.row ⟨b, off, none⟩ zs.length := by
          simp only [MemPlace.row, List.mem_map, List.mem_range]
          exact ⟨0, by omega, by simp⟩
        have := hlt (MemPlace.cell b (off + 0)) (by rw [hx2]; exact hm0)
        simpa [MemPlace.block] using this
      · rw [hlen] at hi
        rw [hc i (by omega)]
        unfold intV
        congr 2
        simp only [List.getElem_take]
        rw [List.getD, List.getElem?_eq_getElem (by omega)]
        rfl
/-- AN ARGUMENT OF TYPE []string -/
theorem open_strz {H : Type} {enc : TypeId × Value → H} {W : World} {base : Nat} {v : Value} {d : DataW H} {p : List MemPlace}
    (hv : Value.okWide Try.prog W .any base 22 v) (h : DataW.Trod enc Try.prog W 0 (fun _ => true) true 22 v d p) (hlt : ∀ x ∈ p, x.block < W.heap.size) :
    ∃ (oA : Option Addr) (cap : Nat) (l : List (List UInt8)), v = .slice oA l.length cap ∧ l.length ≤ cap ∧ cap ≤ maxLen ∧ RowAt strV W W.heap.size oA l ∧ (oA = none → l = [] ∧ cap = 0) ∧ ∀ z ∈ l, z.length ≤ 9223372036854775807 := by
  obtain ⟨a0, len, cap, rfl⟩ := okWide_slice Try.underlying22 hv
  obtain ⟨fuel, hf⟩ := h
  rcases open_strings Try.underlying22 Try.underlying9 cells_str hf with ⟨hcs, hx⟩ | ⟨a, len', cap', ss, hcs, _, hl, hm, hz, hx, hcell, hws⟩
  · simp [Value.cells] at hcs
    obtain ⟨rfl, rfl, rfl⟩ := hcs
    exact ⟨none, 0, [], rfl, Nat.le_refl _, Nat.zero_le _, Or.inl rfl, fun _ => ⟨rfl, rfl⟩, fun z hz => nomatch hz⟩
  · simp [Value.cells] at hcs
    obtain ⟨rfl, rfl, rfl⟩ := hcs
    simp only [if_true] at hz
    have hx2 := (Prod.mk.inj hx).2
    have hlen : ((ss.take len).map fun s => s.data.toList).length = len := by simp; omega
    refine ⟨some a, cap, (ss.take len).map fun s => s.data.toList, by rw [hlen], by omega, hm, ?_, (fun h => nomatch h), ?_⟩
    · rcases Nat.eq_zero_or_pos len with h0 | h0
      · left
        subst h0
        simp
      · right
        obtain ⟨b, off, spot⟩ := a
        obtain rfl : spot = none := by simpa [Addr.add] using World.cell?_spot (hcell 0 (by omega))
        have hc : ∀ j, j < ss.length → W.cell? ⟨b, off + j, none⟩ = some (.string (ss.getD j ByteArray.empty)) := by
          intro j hj
          have ea : (⟨b, off, none⟩ : Addr).add j = ⟨b, off + j, none⟩ := by unfold Addr.add; split <;> simp_all
          rw [← ea]
          exact hcell j hj
        refine ⟨b, off, rfl, ?_, fun i hi => ?_⟩
        · have hm0 : MemPlace.cell b (off + 0) ∈ MemPlace.row ⟨b, off, none⟩ ss.length := by
            simp only [MemPlace.row, List.mem_map, List.mem_range]
            exact ⟨0, by omega, by simp⟩
          have := hlt (MemPlace.cell b (off + 0)) (by rw [hx2]; exact hm0)
          simpa [MemPlace.block] using this
        · rw [hlen] at hi
          rw [hc i (by omega)]
          unfold strV
          simp [List.getElem?_eq_getElem (show i < ss.length by omega)]
    · intro z hz
      obtain ⟨s, hs, rfl⟩ := List.mem_map.1 hz
      have := hws s (List.mem_of_mem_take hs)
      have h2 : s.data.toList.length = s.size := Array.length_toList
      simp only [maxLen] at this
      omega

def clV {α : Type} (f : α → Value) (z : α) (l : List α) (k : Nat) : Array Value := ((List.range l.length).map fun j => if j < k then f (l.getD j z) else f z).toArray
theorem clV_size {α : Type} (f : α → Value) (z : α) (l : List α) (k : Nat) : (clV f z l k).size = l.length := by simp [clV]
theorem clV_at {α : Type} (f : α → Value) (z : α) (l : List α) (k j : Nat) (h : j < l.length) : (clV f z l k)[j]? = some (if j < k then f (l.getD j z) else f z) := by
  simp [clV, h]
theorem clV_zero {α : Type} (f : α → Value) (z : α) (l : List α) : clV f z l 0 = madeCells #[f z] l.length := by
  apply Array.ext_getElem?
  intro j
  by_cases h : j < l.length
  · simp [clV, madeCells, h, Nat.mod_one]
  · simp [clV, madeCells, h]
theorem clV_put {α : Type} (f : α → Value) (z : α) (l : List α) (k : Nat) (h : k < l.length) : (clV f z l k).setIfInBounds k (f (l.getD k z)) = clV f z l (k + 1) := by
  apply Array.ext_getElem?
  intro j
  rw [Array.getElem?_setIfInBounds]
  by_cases hj : j < l.length
  · rw [clV_at f z l (k + 1) j hj]
    by_cases hk : k = j
    · subst hk
      rw [if_pos rfl, if_pos (by rw [clV_size]; exact h), if_pos (by omega)]
    · rw [if_neg hk, clV_at f z l k j hj]
      by_cases h1 : j < k
      · rw [if_pos h1, if_pos (by omega)]
      · rw [if_neg h1, if_neg (by omega)]
  · have e1 : ∀ m, (clV f z l m)[j]? = none := fun m => Array.getElem?_eq_none (by rw [clV_size]; omega)
    rw [e1, e1, if_neg (by omega)]
def CloneV {α : Type} (f : α → Value) (l : List α) (w : World) (e : Ending) (w' : World) : Prop :=
  ∃ oB cap, e = .returned (.slice oB l.length cap) ∧ l.length ≤ cap ∧ RowAt f w' w'.heap.size oB l ∧ Below w.heap.size w w'

theorem clS_info : (Try.prog.info? 9).map (fun i => (i.zero, i.size, i.bytes)) = some (some (.string ⟨#[]⟩), 1, 16) := by kernel_rfl
theorem clS_make (n : Nat) (hn : n ≤ 1048576) (w : World) : (Instr.makeSlice 22 (.int .i64 (n : Int)) (.int .i64 (n : Int))).run Try.prog w = .ok (.slice (some ⟨w.heap.size, 0, none⟩) n n) (w.alloc (.cells (madeCells #[.string ⟨#[]⟩] n) 9)) := by
  obtain ⟨i0, hi, hz0, hz1, hz2⟩ := info_parts clS_info
  have h := run_make (P := Try.prog) w 22 9 i0 _ Try.underlying22 hi hz0 .i64 .i64 n n (by omega) (Int.le_refl _) (by rw [hz2]; omega) (by omega)
  rw [h, hz1]
  simp [Value.cells]
set_option maxHeartbeats 1000000 in
theorem clS_any (oA : Option Addr) (cap : Nat) (l : List (List UInt8)) (w : World) (hsrc : RowAt strV w w.heap.size oA l) (hnil : oA = none → l = [] ∧ cap = 0) (hn : l.length ≤ 1048576) :
    Calls Try.prog 8 #[.slice oA l.length cap] w (CloneV strV l w) := by
  have hq := fun w => Lib.run_eql_slice_nil (P := Try.prog) w 22 9 oA l.length cap 0 0 Try.underlying22
  rcases oA with _ | p
  · obtain ⟨rfl, rfl⟩ := hnil rfl
    simp only [Option.isNone_none, List.length_nil] at hq
    go_enter Try.func8, Try.ntmps8
    go_wp2
    go_ret
    exact ⟨none, 0, rfl, Nat.le_refl _, Or.inl rfl, Below.refl _ _⟩
  · simp only [Option.isNone_some] at hq
    have hmk := fun w => clS_make l.length hn w
    have hb0 : Below w.heap.size w (w.alloc (.cells (madeCells #[.string ⟨#[]⟩] l.length) 9)) := (Below.refl _ _).alloc (Nat.le_refl _) _
    have hstart : Blk (w.alloc (.cells (madeCells #[.string ⟨#[]⟩] l.length) 9)) w.heap.size 9 (clV strV [] l 0) := by
      rw [clV_zero]
      exact Blk.new w 9 _
    have HR := Lib.hid hsrc
    have HS := Lib.hid hstart
    have HB := Lib.hid hb0
    clear hsrc hstart hb0 hnil
    go_enter Try.func8, Try.ntmps8
    go_wp2
    go_loopw [4] (fun i wr => ∃ j : Nat, j ≤ l.length ∧ i = .int .i64 j ∧ Blk wr w.heap.size 9 (clV strV [] l j) ∧ Below w.heap.size w wr) (fun i _ => l.length - (intOf i).toNat)
    case atStart => exact ⟨0, Nat.zero_le _, rfl, HS.out, HB.out⟩
    case round =>
      obtain ⟨j, hj, rfl, hblk, hbel⟩ := hrel
      clear HS HB hmk
      by_cases hlt : j < l.length
      · obtain ⟨b, o, e, hb, hc⟩ := HR.out.at_ (by omega)
        obtain rfl := Option.some.inj e
        have hc1 : wr.cell? ⟨b, o + j, none⟩ = some (strV (l.getD j [])) := by
          rw [(hbel.cell (p := ⟨b, o + j, none⟩) hb), hc j hlt]
          simp [List.getD, hlt]
        have hne : (b == w.heap.size) = false := by simp; omega
        have hc2 : wr.cell? ⟨w.heap.size, j, none⟩ = some (.string ⟨#[]⟩) := by rw [hblk.cell, clV_at strV [] l j j hlt, if_neg (by omega)]; rfl
        have hf := hblk.free j
        have hset := hblk.put j (strV (l.getD j []))
        rw [clV_put strV [] l j hlt] at hset
        have hbel2 : Below w.heap.size w (wr.setCell ⟨w.heap.size, j, none⟩ (strV (l.getD j []))) := hbel.setCell (Nat.le_refl _) _
        unfold strV at hc1 hset hbel2
        generalize l.getD j [] = z at hc1 hset hbel2
        have HX := Lib.hid hset
        have HY := Lib.hid hbel2
        clear hset hbel2 hblk hbel hc e
        go_wp2
        go_roundw
        case rel => exact ⟨j + 1, by omega, by go_num, HX.out, HY.out⟩
        case measure => simp [intOf]; omega
      · obtain rfl : j = l.length := by omega
        have HX := Lib.hid hblk
        have HY := Lib.hid hbel
        clear hblk hbel
        go_wp2
        go_ret
        refine ⟨some ⟨w.heap.size, 0, none⟩, l.length, rfl, Nat.le_refl _, Or.inr ⟨w.heap.size, 0, rfl, HX.out.lt, fun i hi => ?_⟩, HY.out⟩
        rw [HX.out.cell, Nat.zero_add, clV_at _ _ l _ i hi, if_pos hi]
        simp [List.getD, hi]

theorem clI_info : (Try.prog.info? 2).map (fun i => (i.zero, i.size, i.bytes)) = some (some (.int .i64 0), 1, 8) := by kernel_rfl
theorem clI_make (n : Nat) (hn : n ≤ 1048576) (w : World) : (Instr.makeSlice 23 (.int .i64 (n : Int)) (.int .i64 (n : Int))).run Try.prog w = .ok (.slice (some ⟨w.heap.size, 0, none⟩) n n) (w.alloc (.cells (madeCells #[.int .i64 0] n) 2)) := by
  obtain ⟨i0, hi, hz0, hz1, hz2⟩ := info_parts clI_info
  have h := run_make (P := Try.prog) w 23 2 i0 _ Try.underlying23 hi hz0 .i64 .i64 n n (by omega) (Int.le_refl _) (by rw [hz2]; omega) (by omega)
  rw [h, hz1]
  simp [Value.cells]
set_option maxHeartbeats 1000000 in
theorem clI_any (oA : Option Addr) (cap : Nat) (l : List Int) (w : World) (hsrc : RowAt intV w w.heap.size oA l) (hnil : oA = none → l = [] ∧ cap = 0) (hn : l.length ≤ 1048576) (hr : ∀ z ∈ l, -9223372036854775808 ≤ z ∧ z ≤ 9223372036854775807) :
    Calls Try.prog 9 #[.slice oA l.length cap] w (CloneV intV l w) := by
  have hq := fun w => Lib.run_eql_slice_nil (P := Try.prog) w 23 2 oA l.length cap 0 0 Try.underlying23
  rcases oA with _ | p
  · obtain ⟨rfl, rfl⟩ := hnil rfl
    simp only [Option.isNone_none, List.length_nil] at hq
    go_enter Try.func9, Try.ntmps9
    go_wp2
    go_ret
    exact ⟨none, 0, rfl, Nat.le_refl _, Or.inl rfl, Below.refl _ _⟩
  · simp only [Option.isNone_some] at hq
    have hmk := fun w => clI_make l.length hn w
    have hb0 : Below w.heap.size w (w.alloc (.cells (madeCells #[.int .i64 0] l.length) 2)) := (Below.refl _ _).alloc (Nat.le_refl _) _
    have hstart : Blk (w.alloc (.cells (madeCells #[.int .i64 0] l.length) 2)) w.heap.size 2 (clV intV 0 l 0) := by
      rw [clV_zero]
      exact Blk.new w 2 _
    have HR := Lib.hid hsrc
    have HS := Lib.hid hstart
    have HB := Lib.hid hb0
    clear hsrc hstart hb0 hnil hr
    go_enter Try.func9, Try.ntmps9
    go_wp2
    go_loopw [4] (fun i wr => ∃ j : Nat, j ≤ l.length ∧ i = .int .i64 j ∧ Blk wr w.heap.size 2 (clV intV 0 l j) ∧ Below w.heap.size w wr) (fun i _ => l.length - (intOf i).toNat)
    case atStart => exact ⟨0, Nat.zero_le _, rfl, HS.out, HB.out⟩
    case round =>
      obtain ⟨j, hj, rfl, hblk, hbel⟩ := hrel
      clear HS HB hmk
      by_cases hlt : j < l.length
      · obtain ⟨b, o, e, hb, hc⟩ := HR.out.at_ (by omega)
        obtain rfl := Option.some.inj e
        have hc1 : wr.cell? ⟨b, o + j, none⟩ = some (intV (l.getD j 0)) := by
          rw [(hbel.cell (p := ⟨b, o + j, none⟩) hb), hc j hlt]
          simp [List.getD, hlt]
        have hne : (b == w.heap.size) = false := by simp; omega
        have hc2 : wr.cell? ⟨w.heap.size, j, none⟩ = some (.int .i64 0) := by rw [hblk.cell, clV_at intV 0 l j j hlt, if_neg (by omega)]; rfl
        have hf := hblk.free j
        have hset := hblk.put j (intV (l.getD j 0))
        rw [clV_put intV 0 l j hlt] at hset
        have hbel2 : Below w.heap.size w (wr.setCell ⟨w.heap.size, j, none⟩ (intV (l.getD j 0))) := hbel.setCell (Nat.le_refl _) _
        unfold intV at hc1 hset hbel2
        generalize l.getD j 0 = z at hc1 hset hbel2
        have HX := Lib.hid hset
        have HY := Lib.hid hbel2
        clear hset hbel2 hblk hbel hc e
        go_wp2
        go_roundw
        case rel => exact ⟨j + 1, by omega, by go_num, HX.out, HY.out⟩
        case measure => simp [intOf]; omega
      · obtain rfl : j = l.length := by omega
        have HX := Lib.hid hblk
        have HY := Lib.hid hbel
        clear hblk hbel
        go_wp2
        go_ret
        refine ⟨some ⟨w.heap.size, 0, none⟩, l.length, rfl, Nat.le_refl _, Or.inr ⟨w.heap.size, 0, rfl, HX.out.lt, fun i hi => ?_⟩, HY.out⟩
        rw [HX.out.cell, Nat.zero_add, clV_at _ _ l _ i hi, if_pos hi]
        simp [List.getD, hi]
end Go.Proofs.Ythlhfhcjfikflaa
