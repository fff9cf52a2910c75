/-
  What the row's listed tables give isLetter. No conditions.
-/
import Derived.Test.YtamfekpcoppbgaaFmtLetter
import Derived.PinnedBridge
namespace Go.Proofs.YtamfekpcoppbgaaFmt
open Go.RowKit

theorem xLetter : RExtra Tryf.prog Tryf.lays261_ren := ⟨by kernel_rfl, by kernel_rfl, by kernel_rfl, by kernel_rfl, by kernel_rfl, by kernel_rfl, by kernel_rfl, by kernel_rfl⟩
theorem g_props : Tryf.prog.globalNamed "unicode.properties" = some 1 := by kernel_rfl
theorem g_propsType : (Tryf.prog.globals[1]?).map (·.type) = some 89 := by kernel_rfl
theorem c_u8 : Tryf.prog.cellsOf 5 = 1 := by kernel_rfl
theorem c_props : Tryf.prog.cellsOf 89 = 256 := by kernel_rfl

theorem letterTabs_of {W : World} (hp : VReads Tryf.prog W "unicode.properties" Rows.laid_unicode_properties) (hl : VReads Tryf.prog W "unicode.Letter" Rows.laid_unicode_Letter) : LetterTabs W := by
  refine ⟨?_, ?_⟩
  · have e : (Rows.laid_unicode_properties : DataW Unit) = Lib.tabData .u8 Lib.propertiesTab := by kernel_rfl
    rw [e] at hp
    exact tab_of_reads (zs := Lib.propertiesTab) g_props g_propsType Tryf.underlying89 Tryf.underlying5 c_u8 c_props hp
  · have h2 : VReads Tryf.prog W "unicode.Letter" (Go.Lib.rtabData Lib.letterT) := Pinned.letter_eq ▸ hl
    exact rvar_of_reads Tryf.lays261 xLetter (by kernel_rfl) (by kernel_rfl) h2

end Go.Proofs.YtamfekpcoppbgaaFmt
