/-
  A slice of int64 in memory as a list; an argument of that type opened; blocks known whole. No conditions.
-/
import Derived.Test.YthlhfhcjfikflaaKit
import Derived.Lib.Hide
import Derived.StillTailTactics
import Derived.BigQuiet
import Derived.Deep.QuietTactic
import Derived.IntWalk
import Derived.OwnWalk
import Derived.WalkSpells
import Derived.WalkLawsBesides
namespace Go.Proofs.Ythlhfhcjfikflaa
open Go.ChangeShapes Go.WideShapes Go.ChangeAt Go.RowKit
set_option maxRecDepth 100000
set_option linter.unusedVariables false

/-- the integers in memory, below block B -/
def IntsAt (w : World) (B : Nat) (oA : Option Addr) (l : List Int) : Prop :=
  l = [] ∨ ∃ b o, oA = some ⟨b, o, none⟩ ∧ b < B ∧ ∀ i (h : i < l.length), w.cell? ⟨b, o + i, none⟩ = some (.int .i64 l[i])
theorem IntsAt.keep {w w' : World} {B : Nat} {oA : Option Addr} {l : List Int} (h : IntsAt w B oA l) (hk : ∀ k, k < B → w'.heap[k]? = w.heap[k]?) : IntsAt w' B oA l := by
  rcases h with h | ⟨b, o, e, hb, hc⟩
  · exact Or.inl h
  · exact Or.inr ⟨b, o, e, hb, fun i hi => (World.cell?_of_block (w := w) (hk b hb)).trans (hc i hi)⟩
theorem IntsAt.more {w : World} {B B' : Nat} {oA : Option Addr} {l : List Int} (h : IntsAt w B oA l) (hB : B ≤ B') : IntsAt w B' oA l := by
  rcases h with h | ⟨b, o, e, hb, hc⟩
  · exact Or.inl h
  · exact Or.inr ⟨b, o, e, by omega, hc⟩
theorem IntsAt.at_ {w : World} {B : Nat} {oA : Option Addr} {l : List Int} (h : IntsAt w B oA l) (hp : 0 < l.length) :
    ∃ b o, oA = some ⟨b, o, none⟩ ∧ b < B ∧ ∀ i (h : i < l.length), w.cell? ⟨b, o + i, none⟩ = some (.int .i64 l[i]) := by
  rcases h with h | h
  · rw [h] at hp
    simp at hp
  · exact h
theorem cells_i64 : Try.prog.cellsOf 2 = 1 := by kernel_rfl
/-- AN ARGUMENT OF TYPE []int64: nil, or a slice whose cells are the integers of a list. -/
theorem open_i64s {H : Type} {enc : TypeId × Value → H} {W : World} {base : Nat} {v : Value} {d : DataW H} {p : List MemPlace}
    (hv : Value.okWide Try.prog W .any base 23 v) (h : DataW.Trod enc Try.prog W 0 (fun _ => true) true 23 v d p) (hlt : ∀ x ∈ p, x.block < W.heap.size) :
    ∃ (oA : Option Addr) (cap : Nat) (l : List Int), v = .slice oA l.length cap ∧ l.length ≤ cap ∧ cap ≤ maxLen ∧ IntsAt W W.heap.size oA l ∧ (oA = none → l = [] ∧ cap = 0) ∧ ∀ z ∈ l, -9223372036854775808 ≤ z ∧ z ≤ 9223372036854775807 := by
  obtain ⟨a0, len, cap, rfl⟩ := okWide_slice Try.underlying23 hv
  obtain ⟨fuel, hf⟩ := h
  rcases open_ints Try.underlying23 Try.underlying2 cells_i64 hf with ⟨hcs, hx⟩ | ⟨a, len', cap', zs, hcs, _, hl, hm, hz, hx, hcell, hwz⟩
  · simp [Value.cells] at hcs
    obtain ⟨rfl, rfl, rfl⟩ := hcs
    exact ⟨none, 0, [], rfl, Nat.le_refl _, Nat.zero_le _, Or.inl rfl, fun _ => ⟨rfl, rfl⟩, fun z hz => nomatch hz⟩
  · simp [Value.cells] at hcs
    obtain ⟨rfl, rfl, rfl⟩ := hcs
    simp only [if_true] at hz
    have hx2 := (Prod.mk.inj hx).2
    have hlen : (zs.take len).length = len := by simp; omega
    have hwb : ∀ z ∈ zs, -9223372036854775808 ≤ z ∧ z ≤ 9223372036854775807 := by
      intro z hz
      have hw := hwz z hz
      simpa [Lit.wf, IntKind.min, IntKind.max, IntKind.signed, IntKind.bits] using hw
    refine ⟨some a, cap, zs.take len, by rw [hlen], by omega, hm, ?_, (fun h => nomatch h), fun z hz => hwb z (List.mem_of_mem_take hz)⟩
    rcases Nat.eq_zero_or_pos len with h0 | h0
    · left
      subst h0
      simp
    · right
      obtain ⟨b, off, rfl, hc⟩ := ints_at hcell (by omega)
      refine ⟨b, off, rfl, ?_, fun i hi => ?_⟩
      · have hm0 : MemPlace.cell b (off + 0) ∈ MemPlace.row ⟨b, off, none⟩ zs.length := by
          simp only [MemPlace.row, List.mem_map, List.mem_range]
          exact ⟨0, by omega, by simp⟩
        have := hlt (MemPlace.cell b (off + 0)) (by rw [hx2]; exact hm0)
        simpa [MemPlace.block] using this
      · rw [hlen] at hi
        rw [hc i (by omega)]
        congr 2
        simp only [List.getElem_take]
        rw [List.getD, List.getElem?_eq_getElem (by omega)]
        rfl

/-- a block known whole -/
def Blk (w : World) (g : Nat) (t : TypeId) (cs : Array Value) : Prop := w.heap[g]? = some (.cells cs t (0, 0))
theorem Blk.cell {w : World} {g : Nat} {t : TypeId} {cs : Array Value} (h : Blk w g t cs) (i : Nat) : w.cell? ⟨g, i, none⟩ = cs[i]? := by
  unfold Blk at h
  simp [World.cell?, h]
theorem Blk.free {w : World} {g : Nat} {t : TypeId} {cs : Array Value} (h : Blk w g t cs) (i : Nat) : w.frozen? ⟨g, i, none⟩ = false := by
  unfold Blk at h
  simp [World.frozen?, h]
theorem Blk.put {w : World} {g : Nat} {t : TypeId} {cs : Array Value} (h : Blk w g t cs) (i : Nat) (u : Value) : Blk (w.setCell ⟨g, i, none⟩ u) g t (cs.setIfInBounds i u) := by
  unfold Blk at h ⊢
  simp [World.setCell, Array.getElem?_modify, h]
theorem Blk.lt {w : World} {g : Nat} {t : TypeId} {cs : Array Value} (h : Blk w g t cs) : g < w.heap.size := by
  unfold Blk at h
  rcases Nat.lt_or_ge g w.heap.size with h1 | h1
  · exact h1
  · rw [Array.getElem?_eq_none h1] at h
    cases h
theorem Blk.new (w : World) (t : TypeId) (cs : Array Value) : Blk (w.alloc (.cells cs t)) w.heap.size t cs := (MapKept.heap_alloc w _).1
theorem Blk.same {w w' : World} {g : Nat} {t : TypeId} {cs : Array Value} (h : Blk w g t cs) (he : w'.heap[g]? = w.heap[g]?) : Blk w' g t cs := he.trans h
theorem ret_t {p : Prop} [Decidable p] (h : p) : Ending.returned (.bool true) = .returned (.bool (decide p)) := by rw [decide_eq_true h]
theorem ret_f {p : Prop} [Decidable p] (h : ¬ p) : Ending.returned (.bool false) = .returned (.bool (decide p)) := by rw [decide_eq_false h]
theorem below_dn {B : Nat} {a w : World} (h : Below B a w) (n : Nat) : Below B a (w.drewN n) := ⟨h.os, h.tape, h.output, h.size, h.block⟩

/-- draws alone -/
structure Qt (w w' : World) : Prop where
  os : w'.os = w.os
  tape : w'.tape = w.tape
  output : w'.output = w.output
  heap : w'.heap = w.heap
theorem Qt.refl (w : World) : Qt w w := ⟨rfl, rfl, rfl, rfl⟩
theorem Qt.trans {a b c : World} (h : Qt a b) (k : Qt b c) : Qt a c := ⟨k.os.trans h.os, k.tape.trans h.tape, k.output.trans h.output, k.heap.trans h.heap⟩
theorem Qt.drewN {a w : World} (h : Qt a w) (n : Nat) : Qt a (w.drewN n) := ⟨h.os, h.tape, h.output, h.heap⟩
theorem Qt.drew {a w : World} (h : Qt a w) : Qt a w.drew := ⟨h.os, h.tape, h.output, h.heap⟩
theorem Qt.block {a w : World} (h : Qt a w) (k : Nat) : w.heap[k]? = a.heap[k]? := by rw [h.heap]
theorem Qt.cell {a w : World} (h : Qt a w) (p : Addr) : w.cell? p = a.cell? p := World.cell?_of_block (w := a) (h.block p.block)
theorem Qt.below {a w : World} (h : Qt a w) (B : Nat) : Below B a w := ⟨h.os, h.tape, h.output, by rw [h.heap]; exact Nat.le_refl _, fun k _ => h.block k⟩

/-- objects of type Int in memory, below block B: a row of interfaces and what they point to -/
def ObjsAt (w : World) (B b : Nat) (l : List Int) : Prop :=
  b < B ∧ ∀ i (h : i < l.length), ∃ p, p < B ∧ w.cell? ⟨b, i, none⟩ = some (.iface 46 (.pointer (some ⟨p, 0, none⟩))) ∧ w.cell? ⟨p, 0, none⟩ = some (.int .i64 l[i])
theorem ObjsAt.keep {w w' : World} {B b : Nat} {l : List Int} (h : ObjsAt w B b l) (hk : ∀ k, k < B → w'.heap[k]? = w.heap[k]?) : ObjsAt w' B b l :=
  ⟨h.1, fun i hi => by
    obtain ⟨p, hp, h1, h2⟩ := h.2 i hi
    exact ⟨p, hp, (World.cell?_of_block (w := w) (hk b h.1)).trans h1, (World.cell?_of_block (w := w) (hk p hp)).trans h2⟩⟩
theorem ObjsAt.more {w : World} {B B' b : Nat} {l : List Int} (h : ObjsAt w B b l) (hB : B ≤ B') : ObjsAt w B' b l :=
  ⟨Nat.lt_of_lt_of_le h.1 hB, fun i hi => by
    obtain ⟨p, hp, h1, h2⟩ := h.2 i hi
    exact ⟨p, by omega, h1, h2⟩⟩
theorem obj_info : (Try.prog.info? 38).map (fun i => (i.zero, i.size, i.bytes)) = some (some .nilIface, 1, 16) := by kernel_rfl
theorem obj_make (n : Nat) (hn : n ≤ 1048576) (w : World) : (Instr.makeSlice 75 (.int .i64 (n : Int)) (.int .i64 (n : Int))).run Try.prog w = .ok (.slice (some ⟨w.heap.size, 0, none⟩) n n) (w.alloc (.cells (madeCells #[.nilIface] n) 38)) := by
  obtain ⟨i0, hi, hz0, hz1, hz2⟩ := info_parts obj_info
  have h := run_make (P := Try.prog) w 75 38 i0 _ Try.underlying75 hi hz0 .i64 .i64 n n (by omega) (Int.le_refl _) (by rw [hz2]; omega) (by omega)
  rw [h, hz1]
  simp [Value.cells]
end Go.Proofs.Ythlhfhcjfikflaa
