/-
  What the row's listed tables of unicode/utf8 give the decoder. No conditions.
  What the row's listed tables give isLetter. No conditions.
  What the row's listed tables give isDigit and Lookup. No conditions.
-/
import Derived.Test.YtamfekpcoppbgaaFmtKit
import Derived.Lib.LaidU8T
import Derived.PinnedBridge
import Derived.MakeChecks
import Derived.Test.YtamfekpcoppbgaaFmtLetter
import Derived.Test.YtamfekpcoppbgaaFmtLookV
namespace Go.Proofs.YtamfekpcoppbgaaFmt
open Go.RowKit

def u8ren : Go.Shelf.Ren := ⟨fun n => n, fun | 5 => 5 | 119 => 89 | 138 => 105 | 139 => 106 | n => n, fun | 3 => 4 | 4 => 5 | n => n⟩
theorem u8types : U8Types Tryf.prog u8ren := ⟨Tryf.underlying5, Tryf.underlying89, Tryf.underlying105, Tryf.underlying106⟩
theorem u8extra : U8Extra Tryf.prog u8ren := ⟨by kernel_rfl, by kernel_rfl, by kernel_rfl, by kernel_rfl, by kernel_rfl, by kernel_rfl, by kernel_rfl⟩

theorem u8tabs_of {W : World} (hf : VReads Tryf.prog W "unicode/utf8.first" Rows.laid_unicode_utf8_first) (ha : VReads Tryf.prog W "unicode/utf8.acceptRanges" Rows.laid_unicode_utf8_acceptRanges) : Lib.Utf8Tabs 4 5 W := by
  have h1 : VReads Tryf.prog W "unicode/utf8.first" Lib.firstData := Pinned.utf8First_eq ▸ hf
  have e : (Rows.laid_unicode_utf8_acceptRanges : DataW Unit) = Lib.acceptData := by kernel_rfl
  have h2 : VReads Tryf.prog W "unicode/utf8.acceptRanges" Lib.acceptData := e ▸ ha
  exact utf8Tabs_of_readsT u8types u8extra h1 h2

theorem vreads_lt {W : World} {n : String} {d : DataW Unit} {g : Nat} (h : VReads Tryf.prog W n d) (hg : Tryf.prog.globalNamed n = some g) : g < W.heap.size := by
  obtain ⟨g', t, cs, fuel, p, h1, h2, h3, h4⟩ := h
  obtain rfl := Option.some.inj (hg.symm.trans h1)
  unfold World.var? at h3
  rw [h1] at h3
  simp only [Option.bind_some] at h3
  rcases Nat.lt_or_ge g W.heap.size with hlt | hge
  · exact hlt
  · rw [Array.getElem?_eq_none hge] at h3
    cases h3
theorem u8lt_of {W : World} (hf : VReads Tryf.prog W "unicode/utf8.first" Rows.laid_unicode_utf8_first) (ha : VReads Tryf.prog W "unicode/utf8.acceptRanges" Rows.laid_unicode_utf8_acceptRanges) : 4 < W.heap.size ∧ 5 < W.heap.size :=
  ⟨vreads_lt hf (by kernel_rfl), vreads_lt ha (by kernel_rfl)⟩

end Go.Proofs.YtamfekpcoppbgaaFmt
namespace Go.Proofs.YtamfekpcoppbgaaFmt
open Go.RowKit

theorem xLetter : RExtra Tryf.prog Tryf.lays261_ren := ⟨by kernel_rfl, by kernel_rfl, by kernel_rfl, by kernel_rfl, by kernel_rfl, by kernel_rfl, by kernel_rfl, by kernel_rfl⟩
theorem g_props : Tryf.prog.globalNamed "unicode.properties" = some 1 := by kernel_rfl
theorem g_propsType : (Tryf.prog.globals[1]?).map (·.type) = some 89 := by kernel_rfl
theorem c_u8 : Tryf.prog.cellsOf 5 = 1 := by kernel_rfl
theorem c_props : Tryf.prog.cellsOf 89 = 256 := by kernel_rfl

theorem letterTabs_of {W : World} (hp : VReads Tryf.prog W "unicode.properties" Rows.laid_unicode_properties) (hl : VReads Tryf.prog W "unicode.Letter" Rows.laid_unicode_Letter) : LetterTabs W := by
  refine ⟨?_, ?_⟩
  · have e : (Rows.laid_unicode_properties : DataW Unit) = Lib.tabData .u8 Lib.propertiesTab := by kernel_rfl
    rw [e] at hp
    exact tab_of_reads (zs := Lib.propertiesTab) g_props g_propsType Tryf.underlying89 Tryf.underlying5 c_u8 c_props hp
  · have h2 : VReads Tryf.prog W "unicode.Letter" (Go.Lib.rtabData Lib.letterT) := Pinned.letter_eq ▸ hl
    exact rvar_of_reads Tryf.lays261 xLetter (by kernel_rfl) (by kernel_rfl) h2

end Go.Proofs.YtamfekpcoppbgaaFmt
namespace Go.Proofs.YtamfekpcoppbgaaFmt
open Go.RowKit

theorem digitTab_of {W : World} (hl : VReads Tryf.prog W "unicode.Digit" Rows.laid_unicode_Digit) : Lib.RVar 3 Lib.digitT W := by
  have h2 : VReads Tryf.prog W "unicode.Digit" (Go.Lib.rtabData Lib.digitT) := Pinned.digit_eq ▸ hl
  exact rvar_of_reads Tryf.lays261 xLetter (by kernel_rfl) (by kernel_rfl) h2
theorem tokCells_of {W : World} (h : VReads Tryf.prog W "github.com/d5/tengo/v2/token.tokens" Rows.laid_github_com_d5_tengo_v2_token_tokens) : TokCells W := fun i hi => tok_cells h i hi
end Go.Proofs.YtamfekpcoppbgaaFmt
