/-
  The listed token table holds keywords of two letters or more. No conditions.
-/
import Derived.Test.YthhmkkpginddbaaFmtSkB
import Derived.Test.YthhmkkpginddbaaFmtTokVar
namespace Go.Proofs.YthhmkkpginddbaaFmt
open Go.RowKit
set_option maxRecDepth 100000
theorem kw_all : (List.range 75).all (fun n => decide (n < 60) || (decide (2 ≤ (tokTab.getD n []).length) && decide ((tokTab.getD n []).length ≤ 100))) = true := by kernel_rfl
theorem kwAt_of {W : World} (h : VReads Tryf.prog W "github.com/d5/tengo/v2/token.tokens" Rows.laid_github_com_d5_tengo_v2_token_tokens) : KwAt W := by
  refine ⟨cell_lt (tok_cells h 60 (by decide)), fun n h1 h2 => ?_⟩
  have := List.all_eq_true.1 kw_all n (List.mem_range.2 h2)
  simp only [Bool.or_eq_true, Bool.and_eq_true, decide_eq_true_eq] at this
  exact ⟨_, tok_cells h n h2, by omega, by omega⟩
end Go.Proofs.YthhmkkpginddbaaFmt
