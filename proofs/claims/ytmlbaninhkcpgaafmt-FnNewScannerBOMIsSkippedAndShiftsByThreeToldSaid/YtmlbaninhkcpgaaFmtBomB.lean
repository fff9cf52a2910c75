/-
  FnNewScannerBOMIsSkippedAndShiftsByThree: the two files, and the pieces of the walk. Conditions: as stated.
-/
import Derived.Test.YtmlbaninhkcpgaaFmtBomA
import Derived.Test.YtmlbaninhkcpgaaFmtIdSG
namespace Go.Proofs.YtmlbaninhkcpgaaFmt
open Go.RowKit
set_option maxRecDepth 100000
set_option linter.unusedVariables false

theorem put3 (z a b c : Value) (n : Nat) (cs : List Value) (h : cs.length = n) : splice ((((madeCells #[z] (n + 3)).setIfInBounds 0 a).setIfInBounds 1 b).setIfInBounds 2 c).toList 3 cs = a :: b :: c :: cs := by
  unfold splice
  have h1 : (((((madeCells #[z] (n + 3)).setIfInBounds 0 a).setIfInBounds 1 b).setIfInBounds 2 c).toList).length = n + 3 := by simp [madeCells]
  rw [List.drop_eq_nil_of_le (by rw [h1]; omega), List.append_nil]
  have h2 : ∀ L : List Value, L[0]? = some a → L[1]? = some b → L[2]? = some c → L.take 3 = [a, b, c] := by
    intro L e0 e1 e2
    match L, e0, e1, e2 with
    | x :: y :: z :: L, e0, e1, e2 =>
      simp at e0 e1 e2
      simp [e0, e1, e2]
  rw [h2 _ (by simp [madeCells]) (by simp [madeCells]) (by simp [madeCells])]
  rfl
def dpn (g n : Nat) : Option Addr := if n = 0 then some ⟨g, 0, none⟩ else some ⟨g, 3, none⟩
theorem dpn_pos {g n : Nat} (h : 0 < n) : dpn g n = some ⟨g, 3, none⟩ := by
  unfold dpn
  rw [if_neg (by omega)]
theorem sl3 (W : World) (g n : Nat) : (Instr.slice 22 (.slice (some ⟨g, 0, none⟩) (n + 3) (n + 3)) (some (.int .i64 3)) none none).run Tryf.prog W = .ok (.slice (dpn g n) n n) W := by
  rw [run_slice_l W 22 _ (n + 3) (n + 3) (by rw [el_u8]; exact Tryf.underlying22) .i64 _ (by omega) (by omega), el_u8]
  have hs : (sizeOf 5).run Tryf.prog W = .ok 1 W := by kernel_rfl
  rw [hs]
  unfold dpn
  by_cases h : n = 0
  · subst h
    rfl
  · rw [if_neg h]
    have h2 : ¬ n + 3 = (3 : Int).toNat := by
      show ¬ n + 3 = 3
      omega
    simp [Result.andThen, sliced, Addr.add, h]
theorem sl3A (W : World) (g n : Nat) : (Instr.sliceAt 22 (.slice (some ⟨g, 0, none⟩) (n + 3) (n + 3)) (some (.int .i64 3)) none none).run Tryf.prog W = .ok (.slice (dpn g n) n n) W := by
  rw [run_sliceAt_slice W _ _ _ _ _ (by rw [el_u8]; exact Tryf.underlying22)]
  exact sl3 W g n
theorem own_low {w : World} {B B' : Nat} {e : TypeId} {size : Nat} {v : Value} {n : Nat} {xs : List Value} (h : w.ownsRow B e size v n xs) (hb : B' ≤ B) : w.ownsRow B' e size v n xs := by
  obtain ⟨h1, h2⟩ := h
  refine ⟨h1, ?_⟩
  rcases h2 with h2 | ⟨g, cap, cur, h3, h4, h5⟩
  · exact Or.inl h2
  · exact Or.inr ⟨g, cap, cur, h3, Nat.le_trans hb h4, h5⟩
def FileP (gSet gF : Nat) (lv : Value) (nm : ByteArray) (n : Nat) (w w' : World) : Prop :=
  w.heap.size ≤ gF ∧ Blk w' gF 42 (flCells ⟨.pointer (some ⟨gSet, 0, none⟩), nm, 1⟩ n lv) ∧ w'.ownsRow w.heap.size 3 1 lv 1 (lnCells [0]) ∧
    w'.os = w.os ∧ w'.tape = w.tape ∧ w'.output = w.output ∧ w.heap.size ≤ w'.heap.size ∧ ∀ k, k < w.heap.size → k ≠ gSet → w'.heap[k]? = w.heap[k]?
theorem files_two (na nb : Nat) (nA nB : ByteArray) (wc we wg : World) (gFa gFb : Nat) (lva lvb : Value)
    (ha : FileP wc.heap.size gFa lva nA na (wc.alloc (.cells #[.int .i64 1, .slice none 0 0, .pointer none] 39)) we) (hb : FileP we.heap.size gFb lvb nB nb (we.alloc (.cells #[.int .i64 1, .slice none 0 0, .pointer none] 39)) wg) :
    Blk wg gFa 42 (flCells ⟨.pointer (some ⟨wc.heap.size, 0, none⟩), nA, 1⟩ na lva) ∧ wg.ownsRow wc.heap.size 3 1 lva 1 (lnCells [0]) ∧
    Blk wg gFb 42 (flCells ⟨.pointer (some ⟨we.heap.size, 0, none⟩), nB, 1⟩ nb lvb) ∧ wg.ownsRow wc.heap.size 3 1 lvb 1 (lnCells [0]) ∧
    gFb ≠ gFa ∧ lva.ownBlock ≠ lvb.ownBlock ∧ Below wc.heap.size wc wg ∧ wc.heap.size ≤ gFa ∧ wc.heap.size ≤ gFb := by
  obtain ⟨a1, a2, a3, a4, a5, a6, a7, a8⟩ := ha
  obtain ⟨b1, b2, b3, b4, b5, b6, b7, b8⟩ := hb
  have sa : (wc.alloc (.cells #[.int .i64 1, .slice none 0 0, .pointer none] 39)).heap.size = wc.heap.size + 1 := by simp
  have sb : (we.alloc (.cells #[.int .i64 1, .slice none 0 0, .pointer none] 39)).heap.size = we.heap.size + 1 := by simp
  rw [sa] at a1 a3 a7
  rw [sb] at b1 b3 b7
  have hBa : Below wc.heap.size wc we := ⟨a4, a5, a6, by omega, fun k hk => (a8 k (by rw [sa]; omega) (by omega)).trans (Below.heap_alloc _ _ _ hk)⟩
  have hBb : Below we.heap.size we wg := ⟨b4, b5, b6, by omega, fun k hk => (b8 k (by rw [sb]; omega) (by omega)).trans (Below.heap_alloc _ _ _ hk)⟩
  have hfa : gFa < we.heap.size := a2.lt
  have hla : ∀ k, some k = lva.ownBlock → k < we.heap.size := by
    intro k hk
    rcases a3.2 with ⟨_, h0⟩ | ⟨g, cap', cur, rfl, _, hh, _⟩
    · omega
    · have : k = g := by simpa [Value.ownBlock] using hk
      subst this
      exact Blk.lt (t := 3) hh
  have hlb : ∀ k, lvb.ownBlock = some k → we.heap.size < k := by
    intro k hk
    rcases b3.2 with ⟨_, h0⟩ | ⟨g, cap', cur, rfl, hg, _⟩
    · omega
    · have : g = k := by simpa [Value.ownBlock] using hk
      omega
  have hsome : ∃ k, lva.ownBlock = some k := by
    rcases a3.2 with ⟨_, h0⟩ | ⟨g, cap', cur, rfl, _⟩
    · omega
    · exact ⟨g, rfl⟩
  obtain ⟨ka, hka⟩ := hsome
  refine ⟨a2.same (hBb.block gFa hfa), own_keep (own_low a3 (by omega)) (fun k hk => hBb.block k (hla k hk)), b2, own_low b3 (by omega), by omega, ?_, hBa.trans (hBb.mono (by omega)), by omega, by omega⟩
  intro h
  have h1 := hla ka hka.symm
  have h2 := hlb ka (h.symm.trans hka)
  omega
end Go.Proofs.YtmlbaninhkcpgaaFmt
