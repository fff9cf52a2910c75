/-
  The listed token table holds the four operators. No conditions.
-/
import Derived.Test.YthbcmmgfnmheiaaDoorUn50
import Derived.Test.YthbcmmgfnmheiaaDoorTokVar
namespace Go.Proofs.YthbcmmgfnmheiaaDoor
open Go.RowKit
set_option maxRecDepth 100000
theorem tokAt_of {W : World} (h : VReads Tryd.prog W "github.com/d5/tengo/v2/token.tokens" Rows.laid_github_com_d5_tengo_v2_token_tokens) : TokAt W := by
  refine ⟨cell_lt (tok_cells h 11 (by decide)), fun n hn => ?_⟩
  rw [tok_cells h (opT n) (opT_lt n)]
  rcases mod4 n with e | e | e | e
  all_goals
    unfold opT opS
    rw [e]
    rfl
end Go.Proofs.YthbcmmgfnmheiaaDoor
