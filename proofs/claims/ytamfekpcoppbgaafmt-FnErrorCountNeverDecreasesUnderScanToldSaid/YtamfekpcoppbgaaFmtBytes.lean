/-
  A slice of bytes in memory as a list; an argument of that type opened. No conditions.
-/
import Derived.Test.YtamfekpcoppbgaaFmtKit
import Derived.Lib.Hide
namespace Go.Proofs.YtamfekpcoppbgaaFmt
open Go.ChangeShapes Go.WideShapes Go.ChangeAt Go.RowKit
set_option maxRecDepth 100000

/-- the bytes in memory, below block B -/
def SrcAt (w : World) (B : Nat) (oA : Option Addr) (src : List UInt8) : Prop :=
  src = [] ∨ ∃ b o, oA = some ⟨b, o, none⟩ ∧ b < B ∧ ∀ i (h : i < src.length), w.cell? ⟨b, o + i, none⟩ = some (.int .u8 (src[i].toNat : Int))
theorem SrcAt.keep {w w' : World} {B : Nat} {oA : Option Addr} {src : List UInt8} (h : SrcAt w B oA src) (hk : ∀ k, k < B → w'.heap[k]? = w.heap[k]?) : SrcAt w' B oA src := by
  rcases h with h | ⟨b, o, e, hb, hc⟩
  · exact Or.inl h
  · exact Or.inr ⟨b, o, e, hb, fun i hi => (World.cell?_of_block (w := w) (hk b hb)).trans (hc i hi)⟩
theorem SrcAt.more {w : World} {B B' : Nat} {oA : Option Addr} {src : List UInt8} (h : SrcAt w B oA src) (hB : B ≤ B') : SrcAt w B' oA src := by
  rcases h with h | ⟨b, o, e, hb, hc⟩
  · exact Or.inl h
  · exact Or.inr ⟨b, o, e, by omega, hc⟩
theorem SrcAt.at_ {w : World} {B : Nat} {oA : Option Addr} {src : List UInt8} (h : SrcAt w B oA src) (hp : 0 < src.length) :
    ∃ b o, oA = some ⟨b, o, none⟩ ∧ b < B ∧ ∀ i (h : i < src.length), w.cell? ⟨b, o + i, none⟩ = some (.int .u8 (src[i].toNat : Int)) := by
  rcases h with h | h
  · rw [h] at hp
    simp at hp
  · exact h

theorem cells_u8 : Tryf.prog.cellsOf 5 = 1 := by kernel_rfl

/-- AN ARGUMENT OF TYPE []byte: nil, or a slice whose cells are the bytes of a list. -/
theorem open_bytes {H : Type} {enc : TypeId × Value → H} {W : World} {base : Nat} {v : Value} {d : DataW H} {p : List MemPlace}
    (hv : Value.okWide Tryf.prog W .any base 22 v) (h : DataW.Trod enc Tryf.prog W 0 (fun _ => true) true 22 v d p) (hlt : ∀ x ∈ p, x.block < W.heap.size) :
    ∃ (oA : Option Addr) (cap : Nat) (l : List UInt8), v = .slice oA l.length cap ∧ l.length ≤ cap ∧ cap ≤ maxLen ∧ SrcAt W W.heap.size oA l ∧ (oA = none → l = [] ∧ cap = 0) := by
  obtain ⟨a0, len, cap, rfl⟩ := okWide_slice Tryf.underlying22 hv
  obtain ⟨fuel, hf⟩ := h
  rcases open_ints Tryf.underlying22 Tryf.underlying5 cells_u8 hf with ⟨hcs, hx⟩ | ⟨a, len', cap', zs, hcs, _, hl, hm, hz, hx, hcell, hwz⟩
  · simp [Value.cells] at hcs
    obtain ⟨rfl, rfl, rfl⟩ := hcs
    exact ⟨none, 0, [], rfl, Nat.le_refl _, Nat.zero_le _, Or.inl rfl, fun _ => ⟨rfl, rfl⟩⟩
  · simp [Value.cells] at hcs
    obtain ⟨rfl, rfl, rfl⟩ := hcs
    simp only [if_true] at hz
    have hx2 := (Prod.mk.inj hx).2
    have hlen : ((zs.take len).map fun z => UInt8.ofNat z.toNat).length = len := by simp; omega
    refine ⟨some a, cap, (zs.take len).map fun z => UInt8.ofNat z.toNat, by rw [hlen], by omega, hm, ?_, fun h => by cases h⟩
    rcases Nat.eq_zero_or_pos len with h0 | h0
    · left
      subst h0
      simp
    · right
      obtain ⟨b, off, rfl, hc⟩ := ints_at hcell (by omega)
      refine ⟨b, off, rfl, ?_, fun i hi => ?_⟩
      · have hm0 : MemPlace.cell b (off + 0) ∈ MemPlace.row ⟨b, off, none⟩ zs.length := by
          simp only [MemPlace.row, List.mem_map, List.mem_range]
          exact ⟨0, by omega, by simp⟩
        have := hlt (MemPlace.cell b (off + 0)) (by rw [hx2]; exact hm0)
        simpa [MemPlace.block] using this
      · rw [hlen] at hi
        rw [hc i (by omega)]
        have hw := hwz (zs.getD i 0) (by
          rw [List.getD, List.getElem?_eq_getElem (by omega)]
          exact List.getElem_mem _)
        have hb : 0 ≤ zs.getD i 0 ∧ zs.getD i 0 ≤ 255 := by
          simpa [Lit.wf, IntKind.min, IntKind.max, IntKind.signed, IntKind.bits] using hw
        congr 2
        simp only [List.getElem_map, List.getElem_take]
        have e : zs.getD i 0 = zs[i]'(by omega) := by rw [List.getD, List.getElem?_eq_getElem (by omega)]; rfl
        rw [e] at hb ⊢
        rw [UInt8.toNat_ofNat']
        omega

end Go.Proofs.YtamfekpcoppbgaaFmt
