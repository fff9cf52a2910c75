/-
  The law's own builder of objects of type Int. Conditions: at most 2^20 of them.
-/
import Derived.Test.YtelclbbocnlanaaDoorI64
namespace Go.Proofs.YtelclbbocnlanaaDoor
open Go.RowKit
set_option maxRecDepth 100000
set_option linter.unusedVariables false

def ObjsPost (l : List Int) (w : World) (e : Ending) (w' : World) : Prop :=
  ∃ b, e = .returned (.slice (some ⟨b, 0, none⟩) l.length l.length) ∧ w.heap.size ≤ b ∧ ObjsAt w' w'.heap.size b l ∧ Below w.heap.size w w'
/-- the row filled up to place k -/
def ObjsTo (w : World) (b : Nat) (l : List Int) (k : Nat) : Prop :=
  ∃ cs : Array Value, Blk w b 34 cs ∧ cs.size = l.length ∧ ∀ i (h : i < l.length), i < k → ∃ p, b < p ∧ p < w.heap.size ∧ cs[i]? = some (.iface 43 (.pointer (some ⟨p, 0, none⟩))) ∧ w.cell? ⟨p, 0, none⟩ = some (.int .i64 l[i])
theorem ObjsTo.next {w : World} {b : Nat} {l : List Int} {k : Nat} (h : ObjsTo w b l k) (hk : k < l.length) :
    ObjsTo ((w.setCell ⟨b, k, none⟩ (.iface 43 (.pointer (some ⟨w.heap.size, 0, none⟩)))).alloc (.cells #[.int .i64 l[k]] 45)) b l (k + 1) := by
  obtain ⟨cs, hb, hs, hall⟩ := h
  have hlt := hb.lt
  have hb1 := hb.put k (.iface 43 (.pointer (some ⟨w.heap.size, 0, none⟩)))
  have hother : ∀ p, p ≠ b → (w.setCell ⟨b, k, none⟩ (.iface 43 (.pointer (some ⟨w.heap.size, 0, none⟩)))).heap[p]? = w.heap[p]? := fun p hp => Below.heap_setCell _ ⟨b, k, none⟩ _ p hp
  have hz : (w.setCell ⟨b, k, none⟩ (.iface 43 (.pointer (some ⟨w.heap.size, 0, none⟩)))).heap.size = w.heap.size := by simp [World.setCell]
  generalize (w.setCell ⟨b, k, none⟩ (.iface 43 (.pointer (some ⟨w.heap.size, 0, none⟩)))) = w1 at *
  have hlt1 : b < w1.heap.size := by omega
  refine ⟨_, hb1.same (Below.heap_alloc w1 _ b hlt1), by simpa using hs, fun i hi hik => ?_⟩
  by_cases e : i = k
  · subst e
    have hn := Blk.new w1 45 #[.int .i64 l[i]]
    rw [hz] at hn
    refine ⟨w.heap.size, hlt, by simp; omega, by rw [Array.getElem?_setIfInBounds, if_pos rfl, if_pos (by omega)], ?_⟩
    rw [hn.cell]
    rfl
  · obtain ⟨p, h1, h2, h3, h4⟩ := hall i hi (by omega)
    refine ⟨p, h1, by simp; omega, by rw [Array.getElem?_setIfInBounds, if_neg (fun h => e h.symm)]; exact h3, ?_⟩
    rw [World.cell?_of_block (w := w1) (Below.heap_alloc w1 _ p (by omega)), World.cell?_of_block (w := w) (hother p (by omega))]
    exact h4
set_option maxHeartbeats 1000000 in
theorem objs_any (oA : Option Addr) (cap : Nat) (l : List Int) (w : World) (hsrc : IntsAt w w.heap.size oA l) (hn : l.length ≤ 1048576) :
    Calls Tryd.prog 6 #[.slice oA l.length cap] w (ObjsPost l w) := by
  have hmk := fun W => obj_make l.length hn W
  have hstart : ObjsTo (w.alloc (.cells (madeCells #[.nilIface] l.length) 34)) w.heap.size l 0 := ⟨_, Blk.new w _ _, by simp [size_madeCells], fun i hi h0 => absurd h0 (by omega)⟩
  have HS := Lib.hid hstart
  have HB := Lib.hid ((Below.refl w.heap.size w).alloc (Nat.le_refl _) (.cells (madeCells #[.nilIface] l.length) 34))
  have HR := Lib.hid hsrc
  clear hsrc hstart
  go_enter Tryd.func6, Tryd.ntmps6
  go_wp2
  go_loopw [4] (fun i wr => ∃ j : Nat, j ≤ l.length ∧ i = .int .i64 j ∧ ObjsTo wr w.heap.size l j ∧ Below w.heap.size w wr) (fun i _ => l.length - (intOf i).toNat)
  case atStart => exact ⟨0, Nat.zero_le _, rfl, HS.out, HB.out⟩
  case round =>
    obtain ⟨j, hj, rfl, hto, hbel⟩ := hrel
    clear HS HB hmk
    by_cases hlt : j < l.length
    · obtain ⟨b, o, rfl, hb, hc⟩ := HR.out.at_ (by omega)
      have hc1 : wr.cell? ⟨b, o + j, none⟩ = some (.int .i64 l[j]) := by rw [(hbel.cell (p := ⟨b, o + j, none⟩) hb), hc j hlt]
      have tl : decide ((j : Int) < (l.length : Int)) = true := by simp; omega
      have hne : (b == w.heap.size) = false := by simp; omega
      have hlw : w.heap.size < wr.heap.size := hto.choose_spec.1.lt
      have hto2 := hto
      obtain ⟨cs, hbk, hcs, _⟩ := hto2
      have hbk2 := hbk.same (Below.heap_alloc wr (.cells #[.int .i64 l[j]] 45) _ hbk.lt)
      have hc2 : ∃ u, (wr.alloc (.cells #[.int .i64 l[j]] 45)).cell? ⟨w.heap.size, j, none⟩ = some u := ⟨cs[j]'(by omega), by rw [hbk2.cell, Array.getElem?_eq_getElem]⟩
      obtain ⟨u, hu⟩ := hc2
      have hf := hbk2.free j
      have HN := Lib.hid (ObjsTo.next hto hlt)
      have HY := Lib.hid ((hbel.setCell (p := ⟨w.heap.size, j, none⟩) (Nat.le_refl _) (.iface 43 (.pointer (some ⟨wr.heap.size, 0, none⟩)))).alloc (by simp [World.setCell]; omega) (.cells #[.int .i64 l[j]] 45))
      clear hbk hbk2 hto hbel hc
      generalize l[j] = z at *
      go_wp2
      go_roundw
      case rel => exact ⟨j + 1, by omega, by go_num, HN.out, HY.out⟩
      case measure => simp [intOf]; omega
    · obtain rfl : j = l.length := by omega
      have HX := Lib.hid hto
      have HY := Lib.hid hbel
      have tl : decide ((l.length : Int) < (l.length : Int)) = false := by simp
      clear hto hbel
      go_wp2
      go_ret
      obtain ⟨cs, hbk, hcs, hall⟩ := HX.out
      refine ⟨w.heap.size, rfl, Nat.le_refl _, ⟨hbk.lt, fun i hi => ?_⟩, HY.out⟩
      obtain ⟨p, h1, h2, h3, h4⟩ := hall i hi hi
      exact ⟨p, h2, by rw [hbk.cell]; exact h3, h4⟩
end Go.Proofs.YtelclbbocnlanaaDoor
