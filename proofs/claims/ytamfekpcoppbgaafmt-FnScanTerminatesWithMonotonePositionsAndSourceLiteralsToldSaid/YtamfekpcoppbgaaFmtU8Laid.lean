/-
  What the row's listed tables of unicode/utf8 give the decoder. No conditions.
-/
import Derived.Test.YtamfekpcoppbgaaFmtKit
import Derived.Lib.LaidU8T
import Derived.PinnedBridge
import Derived.MakeChecks
namespace Go.Proofs.YtamfekpcoppbgaaFmt
open Go.RowKit

def u8ren : Go.Shelf.Ren := ⟨fun n => n, fun | 5 => 5 | 119 => 89 | 138 => 105 | 139 => 106 | n => n, fun | 3 => 4 | 4 => 5 | n => n⟩
theorem u8types : U8Types Tryf.prog u8ren := ⟨Tryf.underlying5, Tryf.underlying89, Tryf.underlying105, Tryf.underlying106⟩
theorem u8extra : U8Extra Tryf.prog u8ren := ⟨by kernel_rfl, by kernel_rfl, by kernel_rfl, by kernel_rfl, by kernel_rfl, by kernel_rfl, by kernel_rfl⟩

theorem u8tabs_of {W : World} (hf : VReads Tryf.prog W "unicode/utf8.first" Rows.laid_unicode_utf8_first) (ha : VReads Tryf.prog W "unicode/utf8.acceptRanges" Rows.laid_unicode_utf8_acceptRanges) : Lib.Utf8Tabs 4 5 W := by
  have h1 : VReads Tryf.prog W "unicode/utf8.first" Lib.firstData := Pinned.utf8First_eq ▸ hf
  have e : (Rows.laid_unicode_utf8_acceptRanges : DataW Unit) = Lib.acceptData := by kernel_rfl
  have h2 : VReads Tryf.prog W "unicode/utf8.acceptRanges" Lib.acceptData := e ▸ ha
  exact utf8Tabs_of_readsT u8types u8extra h1 h2

theorem vreads_lt {W : World} {n : String} {d : DataW Unit} {g : Nat} (h : VReads Tryf.prog W n d) (hg : Tryf.prog.globalNamed n = some g) : g < W.heap.size := by
  obtain ⟨g', t, cs, fuel, p, h1, h2, h3, h4⟩ := h
  obtain rfl := Option.some.inj (hg.symm.trans h1)
  unfold World.var? at h3
  rw [h1] at h3
  simp only [Option.bind_some] at h3
  rcases Nat.lt_or_ge g W.heap.size with hlt | hge
  · exact hlt
  · rw [Array.getElem?_eq_none hge] at h3
    cases h3
theorem u8lt_of {W : World} (hf : VReads Tryf.prog W "unicode/utf8.first" Rows.laid_unicode_utf8_first) (ha : VReads Tryf.prog W "unicode/utf8.acceptRanges" Rows.laid_unicode_utf8_acceptRanges) : 4 < W.heap.size ∧ 5 < W.heap.size :=
  ⟨vreads_lt hf (by kernel_rfl), vreads_lt ha (by kernel_rfl)⟩

end Go.Proofs.YtamfekpcoppbgaaFmt
