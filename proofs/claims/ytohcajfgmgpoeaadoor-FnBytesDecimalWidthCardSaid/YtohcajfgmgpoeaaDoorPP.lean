/-
  The printer in memory: its block and its buffer as a list of bytes; the buffer's Write. Conditions: the buffer's text stays below MaxStringLen, which reads 2147483647.
-/
import Derived.Test.YtohcajfgmgpoeaaDoorApp
namespace Go.Proofs.YtohcajfgmgpoeaaDoor
open Go.RowKit
set_option maxRecDepth 100000
set_option linter.unusedVariables false

/-- MaxStringLen reads as its initialiser laid it -/
def MaxS (w : World) : Prop := w.cell? ⟨0, 0, none⟩ = some (.int .i64 2147483647)
theorem MaxS.keep {w w' : World} {B : Nat} (h : MaxS w) (hB : 0 < B) (hb : Below B w w') : MaxS w' := by
  unfold MaxS at h ⊢
  rw [hb.cell (p := ⟨0, 0, none⟩) hB, h]
theorem MaxS.drewN {w : World} (h : MaxS w) (n : Nat) : MaxS (w.drewN n) := h

/-- the printer's block g holds the cells cs, of which the first is a slice v that owns the bytes buf -/
structure PB (B g : Nat) (cs : Array Value) (v : Value) (buf : List UInt8) (w : World) : Prop where
  blk : Blk w g 42 cs
  c0 : cs[0]? = some v
  own : w.ownsRow B 5 1 v buf.length (u8c buf)
  base : B ≤ g
  max : MaxS w
  gmax : 0 < B
theorem own_val {w : World} {B n : Nat} {v : Value} {xs : List Value} (h : w.ownsRow B 5 1 v n xs) : ∃ ao cp, v = .slice ao n cp ∧ n ≤ cp ∧ cp ≤ maxLen := by
  rcases h.2 with ⟨h0, h1⟩ | ⟨g, cap, cur, hv, hg, hh, hn, hm, _⟩
  · exact ⟨none, 0, by rw [h0, h1], by omega, by simp [maxLen]⟩
  · exact ⟨_, cap, hv, hn, hm⟩
theorem own_lt8 {w : World} {B n : Nat} {v : Value} {xs : List Value} (h : w.ownsRow B 5 1 v n xs) : ∀ k, v.ownBlock = some k → B ≤ k ∧ k < w.heap.size := h.lt
theorem PB.heap {B g : Nat} {cs : Array Value} {v : Value} {buf : List UInt8} {w w' : World} (h : PB B g cs v buf w) (e : w'.heap = w.heap) : PB B g cs v buf w' := by
  have hb : ∀ k : Nat, w'.heap[k]? = w.heap[k]? := fun k => by rw [e]
  exact ⟨h.blk.same (hb _), h.c0, own_keep0 h.own (fun k _ => hb k), h.base, (World.cell?_of_block (w := w) (hb _)).trans h.max, h.gmax⟩
theorem PB.drewN {B g : Nat} {cs : Array Value} {v : Value} {buf : List UInt8} {w : World} (h : PB B g cs v buf w) (n : Nat) : PB B g cs v buf (w.drewN n) := h.heap rfl
theorem PB.drew {B g : Nat} {cs : Array Value} {v : Value} {buf : List UInt8} {w : World} (h : PB B g cs v buf w) : PB B g cs v buf w.drew := h.heap rfl
theorem PB.alloc {B g : Nat} {cs : Array Value} {v : Value} {buf : List UInt8} {w : World} (h : PB B g cs v buf w) (o : Obj) : PB B g cs v buf (w.alloc o) :=
  ⟨h.blk.alloc o, h.c0, h.own.alloc o, h.base, by
    have hl := h.blk.lt
    have := h.base
    have := h.gmax
    exact (World.cell?_of_block (w := w) (Below.heap_alloc w o _ (by show 0 < _; omega))).trans h.max, h.gmax⟩
/-- a store into another cell of the printer's own block -/
theorem PB.put {B g : Nat} {cs : Array Value} {v : Value} {buf : List UInt8} {w : World} (h : PB B g cs v buf w) (i : Nat) (hi : 0 < i) (u : Value) : PB B g (cs.setIfInBounds i u) v buf (w.setCell ⟨g, i, none⟩ u) := by
  have hne := own_tag h.own h.blk (by decide)
  refine ⟨h.blk.put i u, ?_, own_keep0 h.own (fun k hk => Below.heap_setCell w _ u k (fun e => ?_)), h.base, ?_, h.gmax⟩
  · rw [Array.getElem?_setIfInBounds, if_neg (by omega)]
    exact h.c0
  · subst e
    exact hne hk
  · have := h.base
    have := h.gmax
    exact (World.cell?_of_block (w := w) (Below.heap_setCell w _ u _ (by show 0 ≠ g; omega))).trans h.max
theorem PB.below {B g : Nat} {cs : Array Value} {v : Value} {buf : List UInt8} {w : World} (h : PB B g cs v buf w) (i : Nat) (u : Value) : Below B w (w.setCell ⟨g, i, none⟩ u) := (Below.refl _ _).setCell h.base u
theorem PB.size {B g : Nat} {cs : Array Value} {v : Value} {buf : List UInt8} {w : World} (h : PB B g cs v buf w) : B ≤ w.heap.size := by
  have := h.blk.lt
  have := h.base
  omega

/-- what an append leaves, once it is stored back -/
theorem PB.grow {B g : Nat} {cs : Array Value} {v v' : Value} {buf l : List UInt8} {w w' : World} (h : PB B g cs v buf w) (hg : w.grownBy w' v.ownBlock) (ho : w'.ownsRow B 5 1 v' (buf.length + l.length) (u8c buf ++ u8c l)) :
    PB B g (cs.setIfInBounds 0 v') v' (buf ++ l) (w'.setCell ⟨g, 0, none⟩ v') ∧ Below B w (w'.setCell ⟨g, 0, none⟩ v') ∧ Blk w' g 42 cs := by
  have hne := own_tag h.own h.blk (by decide)
  have hblk : Blk w' g 42 cs := h.blk.same (hg.block g h.blk.lt hne)
  have hb : Below B w w' := (Below.refl _ _).grown hg h.size (fun k hk => (own_lt8 h.own k hk).1)
  have hcs : 0 < cs.size := by
    rcases Nat.lt_or_ge 0 cs.size with h1 | h1
    · exact h1
    · have := h.c0
      rw [Array.getElem?_eq_none h1] at this
      cases this
  have hne' := own_tag ho hblk (by decide)
  refine ⟨⟨hblk.put 0 v', by simp [hcs], ?_, h.base, ?_, h.gmax⟩, hb.setCell h.base v', hblk⟩
  · rw [List.length_append, u8c_app]
    exact own_keep0 ho (fun k hk => Below.heap_setCell w' _ v' k (fun e => by subst e; exact hne' hk))
  · exact h.max.keep h.gmax (hb.setCell h.base v')

def BufPost (B g : Nat) (cs : Array Value) (l : List UInt8) (w : World) (e : Ending) (w' : World) : Prop :=
  ∃ v', e = .returned (.tuple #[]) ∧ PB B g (cs.setIfInBounds 0 v') v' l w' ∧ Below B w w'
end Go.Proofs.YtohcajfgmgpoeaaDoor
