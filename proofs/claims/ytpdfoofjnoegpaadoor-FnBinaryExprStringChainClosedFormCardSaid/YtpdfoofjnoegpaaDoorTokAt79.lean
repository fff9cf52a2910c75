/-
  The listed token table holds the nineteen operators; the law's two ways joined. No conditions.
-/
import Derived.Test.YtpdfoofjnoegpaaDoorLaw79
import Derived.Test.YtpdfoofjnoegpaaDoorTokVar
namespace Go.Proofs.YtpdfoofjnoegpaaDoor
open Go.RowKit
set_option maxRecDepth 100000
theorem opTab_all : (List.range 19).all (fun n => tokTab.getD (opTks.getD n 0) [] == opSts.getD n []) = true := by kernel_rfl
theorem tokAt_of {W : World} (h : VReads Tryd.prog W "github.com/d5/tengo/v2/token.tokens" Rows.laid_github_com_d5_tengo_v2_token_tokens) : TokAt W := by
  refine ⟨cell_lt (tok_cells h 11 (by decide)), fun n hn => ?_⟩
  rw [tok_cells h (opTks.getD n 0) (opTks_lt n hn)]
  have := List.all_eq_true.1 opTab_all n (List.mem_range.2 hn)
  rw [eq_of_beq this]
theorem law_79 (oA oB : Option Addr) (capA capB : Nat) (ns : List (List UInt8)) (zs : List Int) (c : Bool) (w : World) (hn : ns.length ≤ 9223372036854775807) (hm : zs.length ≤ 9223372036854775807)
    (hl : ∀ z ∈ ns, z.length ≤ 9223372036854775807) (hr : ∀ z ∈ zs, -9223372036854775808 ≤ z ∧ z ≤ 9223372036854775807) (hk : TokAt w) (hA : RowAt strV w w.heap.size oA ns) (hB : RowAt intV w w.heap.size oB zs) (hnA : oA = none → ns = [] ∧ capA = 0) (hnB : oB = none → zs = [] ∧ capB = 0) :
    Calls Tryd.prog 3 #[.slice oA ns.length capA, .slice oB zs.length capB, .bool c] w fun e w' => e = .returned (.bool true) ∧ Below w.heap.size w w' := by
  cases c
  · exact law79_false oA oB capA capB _ _ ns zs w rfl rfl hn hm hl hr hk hA hB hnA hnB
  · exact law79_true oA oB capA capB _ _ ns zs w rfl rfl hn hm hl hr hk hA hB hnA hnB
end Go.Proofs.YtpdfoofjnoegpaaDoor
