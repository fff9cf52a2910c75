/-
  A listed integer variable's cell, and a listed variable's block. No conditions.
-/
import Derived.Test.YtamfekpcoppbgaaFmtKit
namespace Go.Proofs.YtamfekpcoppbgaaFmt
open Go.RowKit
theorem int_of_reads {P : Program} {W : World} {name : String} {k : IntKind} {z : Int} {g : Nat} {t : TypeId}
    (hg : P.globalNamed name = some g) (hty : (P.globals[g]?).map (·.type) = some t) (ht : P.underlying t = some (.int k)) (h : VReads P W name (.lit (.int k z))) : W.cell? ⟨g, 0, none⟩ = some (.int k z) := by
  obtain ⟨g', t', cs, fuel, p, hg', ht', hvar, hd⟩ := h
  obtain rfl := Option.some.inj (hg.symm.trans hg')
  obtain rfl := Option.some.inj (hty.symm.trans ht')
  obtain ⟨n, hc, hx, _⟩ := DataW.trod_int ht hd
  have h1 := (Prod.mk.inj hx).1
  injection h1 with h1
  injection h1 with _ h1
  subst h1
  have := World.var?_cell hg hvar 0
  rw [this, ← Array.getElem?_toList, hc]
  rfl
theorem cell_lt {W : World} {g i : Nat} {v : Value} (h : W.cell? ⟨g, i, none⟩ = some v) : g < W.heap.size := World.block_lt_of_cell? W ⟨g, i, none⟩ h
end Go.Proofs.YtamfekpcoppbgaaFmt
