/-
  The law's own clone, its question for a mark, and its bound. Conditions: at most 2^20 bytes.
-/
import Derived.Test.YtmlbaninhkcpgaaFmtScanW
import Derived.Test.YtmlbaninhkcpgaaFmtBytes
import Derived.Test.YtmlbaninhkcpgaaFmtEcn
import Derived.Lib.SliceRun
import Derived.Laws.CopyOwn
namespace Go.Proofs.YtmlbaninhkcpgaaFmt
open Go.RowKit
set_option maxRecDepth 100000
set_option linter.unusedVariables false

def bc (l : List UInt8) : List Value := l.map fun b => Value.int .u8 (b.toNat : Int)
theorem bc_len (l : List UInt8) : (bc l).length = l.length := by simp [bc]
theorem bc_one (l : List UInt8) : ∀ v ∈ bc l, v.oneCell' = true := by
  intro v hv
  simp only [bc, List.mem_map] at hv
  obtain ⟨b, _, rfl⟩ := hv
  rfl
theorem bc_pos {w w' : World} {oA : Option Addr} {l : List UInt8} (hs : SrcAt w w.heap.size oA l) (hb : Below w.heap.size w w') (h : 0 < (bc l).length) : ∃ ad, oA = some ad ∧ ∀ j v, (bc l)[j]? = some v → w'.cell? (ad.add j) = some v := by
  rw [bc_len] at h
  obtain ⟨b, o, e, hbb, hc⟩ := hs.at_ h
  refine ⟨_, e, fun j v hj => ?_⟩
  have ea : (⟨b, o, none⟩ : Addr).add j = ⟨b, o + j, none⟩ := by unfold Addr.add; split <;> simp_all
  have hjl : j < l.length := by
    rcases Nat.lt_or_ge j l.length with h1 | h1
    · exact h1
    · rw [List.getElem?_eq_none (by rw [bc_len]; exact h1)] at hj
      cases hj
  rw [ea, (hb.cell (p := ⟨b, o + j, none⟩) hbb), hc j hjl]
  have : (bc l)[j]? = some (.int .u8 (l[j].toNat : Int)) := by
    unfold bc
    rw [List.getElem?_map, List.getElem?_eq_getElem hjl]
    rfl
  rw [this] at hj
  exact hj
theorem bc_src {w : World} {g : Nat} {l : List UInt8} (h : Blk w g 5 (bc l).toArray) (hn : 0 < l.length ∨ l = []) : SrcAt w w.heap.size (some ⟨g, 0, none⟩) l :=
  Or.inr ⟨g, 0, rfl, h.lt, fun i hi => by
    rw [h.cell, Nat.zero_add]
    unfold bc
    simp [hi]⟩
theorem cl_info : (Tryf.prog.info? 5).map (fun i => (i.zero, i.size, i.bytes)) = some (some (.int .u8 0), 1, 1) := by kernel_rfl
theorem cl_make (n : Nat) (hn : n ≤ 1048579) (w : World) : (Instr.makeSlice 22 (.int .i64 (n : Int)) (.int .i64 (n : Int))).run Tryf.prog w = .ok (.slice (some ⟨w.heap.size, 0, none⟩) n n) (w.alloc (.cells (madeCells #[.int .u8 0] n) 5)) := by
  obtain ⟨i0, hi, hz0, hz1, hz2⟩ := info_parts cl_info
  have h := run_make (P := Tryf.prog) w 22 5 i0 _ Tryf.underlying22 hi hz0 .i64 .i64 n n (by omega) (Int.le_refl _) (by rw [hz2]; omega) (by omega)
  rw [h, hz1]
  simp [Value.cells]
theorem splice_all (L cs : List Value) (h : cs.length = L.length) : splice L 0 cs = cs := by
  unfold splice
  rw [List.take_zero, List.nil_append, Nat.zero_add, h, List.drop_length, List.append_nil]
def ClonePost (l : List UInt8) (w : World) (e : Ending) (w' : World) : Prop :=
  ∃ oB cap, e = .returned (.slice oB l.length cap) ∧ l.length ≤ cap ∧ SrcAt w' w'.heap.size oB l ∧ (oB = none → l = [] ∧ cap = 0) ∧ Below w.heap.size w w'
set_option maxHeartbeats 1000000 in
theorem clone_any (oA : Option Addr) (cap : Nat) (l : List UInt8) (w : World) (hsrc : SrcAt w w.heap.size oA l) (hnil : oA = none → l = [] ∧ cap = 0) (hn : l.length ≤ 1048576) :
    Calls Tryf.prog 6 #[.slice oA l.length cap] w (ClonePost l w) := by
  have hq := fun w => Lib.run_eql_slice_nil (P := Tryf.prog) w 22 5 oA l.length cap 0 0 Tryf.underlying22
  rcases oA with _ | p
  · obtain ⟨rfl, rfl⟩ := hnil rfl
    simp only [Option.isNone_none, List.length_nil] at hq
    go_enter Tryf.func6, Tryf.ntmps6
    go_wp2
    go_ret
    exact ⟨none, 0, rfl, Nat.le_refl _, Or.inl rfl, fun _ => ⟨rfl, rfl⟩, Below.refl _ _⟩
  · simp only [Option.isNone_some] at hq
    have hmk := fun w => cl_make l.length (by omega) w
    have HB0 : Hid (Below w.heap.size w (w.alloc (.cells (madeCells #[.int .u8 0] l.length) 5))) := Lib.hid ((Below.refl _ _).alloc (Nat.le_refl _) _)
    have HBL : Hid ((w.alloc (.cells (madeCells #[.int .u8 0] l.length) 5)).heap[w.heap.size]? = some (.cells (madeCells #[.int .u8 0] l.length).toList.toArray 5 (0, 0))) := Lib.hid (Blk.new w 5 (madeCells #[.int .u8 0] l.length))
    have HC1 : Hid ((bc l).length = Nat.min l.length l.length) := Lib.hid (by rw [bc_len]; exact (Nat.min_self _).symm)
    have HC2 : Hid (0 < (bc l).length → (some ⟨w.heap.size, 0, none⟩ : Option Addr) = some ⟨w.heap.size, 0, none⟩ ∧ ∃ ad, some p = some ad ∧ ∀ j v, (bc l)[j]? = some v → (w.alloc (.cells (madeCells #[.int .u8 0] l.length) 5)).cell? (ad.add j) = some v) := Lib.hid (fun h => ⟨rfl, bc_pos hsrc HB0.out h⟩)
    have HC3 : Hid (0 + (bc l).length ≤ (madeCells #[.int .u8 0] l.length).toList.length) := Lib.hid (by rw [bc_len]; simp [madeCells])
    have HSP : Hid (splice (madeCells #[.int .u8 0] l.length).toList 0 (bc l) = bc l) := Lib.hid (splice_all _ _ (by rw [bc_len]; simp [madeCells]))
    clear hsrc hnil
    go_enter Tryf.func6, Tryf.ntmps6
    go_wp2_with ((with_reducible refine wpList_copy_splice rfl (.tmp 9) (.tmp 10) 22 22 rfl 5 Tryf.underlying22 (by kernel_rfl) (some ⟨w.heap.size, 0, none⟩) (some p) l.length l.length l.length cap rfl rfl w.heap.size 0 (madeCells #[.int .u8 0] l.length).toList 5 HBL.out (bc l) HC1.out HC2.out HC3.out (bc_one l) w.heap.size w HB0.out (Nat.le_refl _) ?_); intro w2 HG2 hB2; have HB2 := Lib.hid hB2; clear hB2)
    go_ret
    have hg : Blk w2 w.heap.size 5 (bc l).toArray := by
      have := HG2.out
      rw [HSP.out] at this
      exact this
    refine ⟨some ⟨w.heap.size, 0, none⟩, l.length, rfl, Nat.le_refl _, bc_src hg (by cases l <;> simp), (fun h => nomatch h), HB2.out⟩
def isBom (l : List UInt8) : Bool := decide (2 < l.length) && (decide (bt l 0 = 239) && (decide (bt l 1 = 187) && decide (bt l 2 = 191)))
theorem isBom_no {l : List UInt8} (h : isBom l = false) : (rn l 0).1 ≠ 65279 := by
  intro e
  unfold isBom at h
  unfold rn at e
  rcases Nat.eq_zero_or_pos l.length with h0 | h0
  · have : bt l 0 = 0 := by
      unfold bt
      rw [List.eq_nil_of_length_eq_zero h0]
      rfl
    rw [this] at e
    unfold Lib.decodeN at e
    rw [if_pos (by omega)] at e
    simp at e
  · have hf := (decodeN_facts (l.length - 0) (bt l 0) (bt l (0 + 1)) (bt l (0 + 2)) (bt l (0 + 3)) (by omega) (bt_lt _ _)).2.2.2.2.2.2 e
    have h1 : bt l 1 = 187 := by have := hf.2.1; simp only [Nat.zero_add] at this; omega
    have h2 : bt l 2 = 191 := by have := hf.2.2.1; simp only [Nat.zero_add] at this; omega
    have h3 : 2 < l.length := by have := hf.2.2.1.1; omega
    rw [hf.1, h1, h2] at h
    simp [h3] at h
set_option maxHeartbeats 1000000 in
theorem bomat_any (oA : Option Addr) (cap : Nat) (l : List UInt8) (w : World) (hsrc : SrcAt w w.heap.size oA l) (hn : l.length ≤ 1048576) :
    Calls Tryf.prog 5 #[.slice oA l.length cap, .int .i64 0] w fun e w' => e = .returned (.bool (isBom l)) ∧ w = w' := by
  by_cases h3 : 2 < l.length
  rotate_left
  · have E : isBom l = false := by
      unfold isBom
      rw [decide_eq_false h3, Bool.false_and]
    have t1 : decide ((2 : Int) < (l.length : Int)) = false := decide_eq_false (by omega)
    rw [E]
    clear hsrc E
    go_enter Tryf.func5, Tryf.ntmps5
    go_wp2
    go_ret
    exact ⟨by first | rfl | simp, rfl⟩
  have t1 : decide ((2 : Int) < (l.length : Int)) = true := decide_eq_true (by omega)
  obtain ⟨b, o, rfl, hb, hc⟩ := hsrc.at_ (by omega)
  have at_ : ∀ j, j < l.length → w.cell? ⟨b, o + j, none⟩ = some (.int .u8 (bt l j : Int)) := by
    intro j hj
    rw [hc j hj]
    unfold bt
    simp [List.getD, hj]
  have c0 := at_ 0 (by omega)
  have c1 := at_ 1 (by omega)
  have c2 := at_ 2 (by omega)
  rw [Nat.add_zero] at c0
  have E : isBom l = (decide (bt l 0 = 239) && (decide (bt l 1 = 187) && decide (bt l 2 = 191))) := by
    unfold isBom
    rw [decide_eq_true h3, Bool.true_and]
  rw [E]
  clear E at_ hc hsrc
  generalize bt l 0 = z0 at *
  generalize bt l 1 = z1 at *
  generalize bt l 2 = z2 at *
  by_cases e0 : z0 = 239
  rotate_left
  · have t2 : ((z0 : Int) == 239) = false := by simp; omega
    rw [decide_eq_false e0, Bool.false_and]
    clear e0
    go_enter Tryf.func5, Tryf.ntmps5
    go_wp2
    go_ret
    exact ⟨by first | rfl | simp, rfl⟩
  subst e0
  by_cases e1 : z1 = 187
  rotate_left
  · have t2 : ((z1 : Int) == 187) = false := by simp; omega
    rw [decide_eq_false e1, Bool.false_and, Bool.and_false]
    clear e1
    go_enter Tryf.func5, Tryf.ntmps5
    go_wp2
    go_ret
    exact ⟨by first | rfl | simp, rfl⟩
  subst e1
  by_cases e2 : z2 = 191
  · subst e2
    go_enter Tryf.func5, Tryf.ntmps5
    go_wp2
    go_ret
    exact ⟨by first | rfl | simp, rfl⟩
  · have t2 : ((z2 : Int) == 191) = false := by simp; omega
    rw [decide_eq_false e2]
    clear e2
    go_enter Tryf.func5, Tryf.ntmps5
    go_wp2
    go_ret
    exact ⟨by first | rfl | simp, rfl⟩
set_option maxHeartbeats 400000 in
theorem bytes_bom (oA : Option Addr) (n cap : Nat) (m : Int) (w : World) (hn : n ≤ 9223372036854775807) :
    Calls Tryf.prog 4 #[.slice oA n cap, .int .i64 m] w fun e w' => e = .returned (.bool (decide (n ≤ 1048576))) ∧ w = w' := by
  by_cases h : n ≤ 1048576
  · have t0 : decide ((n : Int) > 1048576) = false := by simp; omega
    have e0 : decide (n ≤ 1048576) = true := by simpa using h
    rw [e0]
    go_enter Tryf.func4, Tryf.ntmps4
    go_wp2
    go_ret
    exact ⟨rfl, rfl⟩
  · have t0 : decide ((n : Int) > 1048576) = true := by simp; omega
    have e0 : decide (n ≤ 1048576) = false := by simpa using h
    rw [e0]
    go_enter Tryf.func4, Tryf.ntmps4
    go_wp2
    go_ret
    exact ⟨rfl, rfl⟩
end Go.Proofs.YtmlbaninhkcpgaaFmt
