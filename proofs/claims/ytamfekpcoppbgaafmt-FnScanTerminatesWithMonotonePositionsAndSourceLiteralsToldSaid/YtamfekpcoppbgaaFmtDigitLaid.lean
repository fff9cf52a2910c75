/-
  What the row's listed tables give isDigit and Lookup. No conditions.
-/
import Derived.Test.YtamfekpcoppbgaaFmtLetterLaid
import Derived.Test.YtamfekpcoppbgaaFmtLookV
namespace Go.Proofs.YtamfekpcoppbgaaFmt
open Go.RowKit

theorem digitTab_of {W : World} (hl : VReads Tryf.prog W "unicode.Digit" Rows.laid_unicode_Digit) : Lib.RVar 3 Lib.digitT W := by
  have h2 : VReads Tryf.prog W "unicode.Digit" (Go.Lib.rtabData Lib.digitT) := Pinned.digit_eq ▸ hl
  exact rvar_of_reads Tryf.lays261 xLetter (by kernel_rfl) (by kernel_rfl) h2
theorem tokCells_of {W : World} (h : VReads Tryf.prog W "github.com/d5/tengo/v2/token.tokens" Rows.laid_github_com_d5_tengo_v2_token_tokens) : TokCells W := fun i hi => tok_cells h i hi
end Go.Proofs.YtamfekpcoppbgaaFmt
