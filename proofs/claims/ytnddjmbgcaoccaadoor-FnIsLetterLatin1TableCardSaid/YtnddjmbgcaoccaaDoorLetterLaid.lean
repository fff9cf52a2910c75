/-
  What the row's listed tables give isLetter. No conditions.
-/
import Derived.Test.YtnddjmbgcaoccaaDoorLetter
import Derived.PinnedBridge
namespace Go.Proofs.YtnddjmbgcaoccaaDoor
open Go.RowKit

theorem xLetter : RExtra Tryd.prog Tryd.lays261_ren := ⟨by kernel_rfl, by kernel_rfl, by kernel_rfl, by kernel_rfl, by kernel_rfl, by kernel_rfl, by kernel_rfl, by kernel_rfl⟩
theorem g_props : Tryd.prog.globalNamed "unicode.properties" = some 0 := by kernel_rfl
theorem g_propsType : (Tryd.prog.globals[0]?).map (·.type) = some 24 := by kernel_rfl
theorem c_u8 : Tryd.prog.cellsOf 5 = 1 := by kernel_rfl
theorem c_props : Tryd.prog.cellsOf 24 = 256 := by kernel_rfl

theorem letterTabs_of {W : World} (hp : VReads Tryd.prog W "unicode.properties" Rows.laid_unicode_properties) (hl : VReads Tryd.prog W "unicode.Letter" Rows.laid_unicode_Letter) : LetterTabs W := by
  refine ⟨?_, ?_⟩
  · have e : (Rows.laid_unicode_properties : DataW Unit) = Lib.tabData .u8 Lib.propertiesTab := by kernel_rfl
    rw [e] at hp
    exact tab_of_reads (zs := Lib.propertiesTab) g_props g_propsType Tryd.underlying24 Tryd.underlying5 c_u8 c_props hp
  · have h2 : VReads Tryd.prog W "unicode.Letter" (Go.Lib.rtabData Lib.letterT) := Pinned.letter_eq ▸ hl
    exact rvar_of_reads Tryd.lays261 xLetter (by kernel_rfl) (by kernel_rfl) h2

end Go.Proofs.YtnddjmbgcaoccaaDoor
