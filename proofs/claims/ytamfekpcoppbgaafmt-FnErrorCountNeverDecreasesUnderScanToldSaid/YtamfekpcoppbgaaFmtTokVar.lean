/-
  The listed token table's cells. No conditions.
-/
import Derived.Test.YtamfekpcoppbgaaFmtKit
import Derived.Test.YtamfekpcoppbgaaFmtVarInt
namespace Go.Proofs.YtamfekpcoppbgaaFmt
open Go.RowKit
set_option maxRecDepth 100000
def tokTab : List (List UInt8) := [[73, 76, 76, 69, 71, 65, 76], [69, 79, 70], [67, 79, 77, 77, 69, 78, 84], [], [73, 68, 69, 78, 84], [73, 78, 84], [70, 76, 79, 65, 84], [67, 72, 65, 82], [83, 84, 82, 73, 78, 71], [], [], [43], [45], [42], [47], [37], [38], [124], [94], [60, 60], [62, 62], [38, 94], [43, 61], [45, 61], [42, 61], [47, 61], [37, 61], [38, 61], [124, 61], [94, 61], [60, 60, 61], [62, 62, 61], [38, 94, 61], [38, 38], [124, 124], [43, 43], [45, 45], [61, 61], [60], [62], [61], [33], [33, 61], [60, 61], [62, 61], [58, 61], [46, 46, 46], [40], [91], [123], [44], [46], [41], [93], [125], [59], [58], [63], [], [], [98, 114, 101, 97, 107], [99, 111, 110, 116, 105, 110, 117, 101], [101, 108, 115, 101], [102, 111, 114], [102, 117, 110, 99], [101, 114, 114, 111, 114], [105, 109, 109, 117, 116, 97, 98, 108, 101], [105, 102], [114, 101, 116, 117, 114, 110], [101, 120, 112, 111, 114, 116], [116, 114, 117, 101], [102, 97, 108, 115, 101], [105, 110], [117, 110, 100, 101, 102, 105, 110, 101, 100], [105, 109, 112, 111, 114, 116]]
theorem g_tok : Tryf.prog.globalNamed "github.com/d5/tengo/v2/token.tokens" = some 0 := by kernel_rfl
theorem g_tokType : (Tryf.prog.globals[0]?).map (·.type) = some 79 := by kernel_rfl
theorem c_str : Tryf.prog.cellsOf 9 = 1 := by kernel_rfl
theorem c_tok : Tryf.prog.cellsOf 79 = 75 := by kernel_rfl
theorem tok_cells {W : World} (h : VReads Tryf.prog W "github.com/d5/tengo/v2/token.tokens" Rows.laid_github_com_d5_tengo_v2_token_tokens) (i : Nat) (hi : i < 75) : W.cell? ⟨0, i, none⟩ = some (.string ⟨(tokTab.getD i []).toArray⟩) :=
  strs_of_reads (ss := tokTab) g_tok g_tokType Tryf.underlying79 Tryf.underlying9 c_str c_tok h i (by simpa [tokTab] using hi)
end Go.Proofs.YtamfekpcoppbgaaFmt
