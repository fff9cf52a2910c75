/-
  What the rows' listed variables give a walk (the token table, strconv's powers of ten), and a world for the witness. No conditions.
-/
import Derived.Test.YtiimeakjediifaaDoorTok
namespace Go.Proofs.YtiimeakjediifaaDoor
open Go.ChangeShapes Go.WideShapes Go.ChangeAt Go.RowKit

abbrev laidList : List (String × DataW Unit) := [("math/bits.deBruijn32tab", Rows.laid_math_bits_deBruijn32tab), ("math/bits.deBruijn64tab", Rows.laid_math_bits_deBruijn64tab), ("internal/strconv.uint64pow10", Rows.laid_internal_strconv_uint64pow10), ("github.com/d5/tengo/v2/token.tokens", Rows.laid_github_com_d5_tengo_v2_token_tokens)]

theorem g_pow : Tryd.prog.globalNamed "internal/strconv.uint64pow10" = some 1 := by kernel_rfl
theorem g_powType : (Tryd.prog.globals[1]?).map (·.type) = some 40 := by kernel_rfl
theorem g_tok : Tryd.prog.globalNamed "github.com/d5/tengo/v2/token.tokens" = some 0 := by kernel_rfl
theorem g_tokType : (Tryd.prog.globals[0]?).map (·.type) = some 28 := by kernel_rfl
theorem c_u64 : Tryd.prog.cellsOf 32 = 1 := by kernel_rfl
theorem c_pow : Tryd.prog.cellsOf 40 = 20 := by kernel_rfl
theorem c_str : Tryd.prog.cellsOf 9 = 1 := by kernel_rfl
theorem c_tok : Tryd.prog.cellsOf 28 = 75 := by kernel_rfl

theorem tokWorld_of_laid {W : World} (h : laidMetH Tryd.prog laidList W) : TokWorld W := by
  have hm : laidMet Tryd.prog laidList W := h
  refine ⟨fun i hi => ?_, ?_⟩
  · exact strs_of_reads (ss := tokTab) g_tok g_tokType Tryd.underlying28 Tryd.underlying9 c_str c_tok (laid_reads hm (by simp only [List.mem_cons]; exact Or.inr (Or.inr (Or.inr (Or.inl rfl))))) i (by simpa [tokTab] using hi)
  · exact tab_of_reads (zs := Lib.pow10Tab) g_pow g_powType Tryd.underlying40 Tryd.underlying32 c_u64 c_pow (laid_reads hm (by simp only [List.mem_cons]; exact Or.inr (Or.inr (Or.inl rfl))))

noncomputable def laidWorld (os : Os) : World :=
  putCells (putCells (putCells (putCells (World.holding Tryd.prog os ⟨#[], #[], []⟩) 2 Rows.laid_math_bits_deBruijn32tab) 3 Rows.laid_math_bits_deBruijn64tab) 1 Rows.laid_internal_strconv_uint64pow10) 0 Rows.laid_github_com_d5_tengo_v2_token_tokens

end Go.Proofs.YtiimeakjediifaaDoor
