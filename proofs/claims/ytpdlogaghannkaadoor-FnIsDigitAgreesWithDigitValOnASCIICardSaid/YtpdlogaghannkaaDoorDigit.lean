/-
  FnIsDigitAgreesWithDigitValOnASCII, walked: true at every rune. Conditions: none.
-/
import Derived.Test.YtpdlogaghannkaaDoorKit
import Derived.Lib.Hide
namespace Go.Proofs.YtpdlogaghannkaaDoor
open Go.RowKit
set_option maxHeartbeats 1000000 in
theorem digit_law (c : Int) (w : World) (h0 : -2147483648 ≤ c) (h1 : c ≤ 2147483647) :
    Calls Tryd.prog 3 #[.int .i32 c] w fun e w' => e = .returned (.bool true) ∧ Below w.heap.size w w' := by
  by_cases ha : 128 ≤ c
  · go_enter Tryd.func3, Tryd.ntmps3
    go_wp2
    go_ret
    exact ⟨rfl, Below.refl _ _⟩
  · by_cases h2 : 48 ≤ c
    · by_cases h3 : c ≤ 57
      · go_enter Tryd.func3, Tryd.ntmps3
        go_wp2
        all_goals go_ret
        all_goals exact ⟨by first | (simp; done) | (simp; omega), Below.refl _ _⟩
      · by_cases h4 : 97 ≤ c <;> by_cases h5 : c ≤ 102 <;> by_cases h6 : 65 ≤ c <;> by_cases h7 : c ≤ 70 <;> try (exfalso; omega)
        all_goals
          go_enter Tryd.func3, Tryd.ntmps3
          go_wp2
          all_goals go_ret
          all_goals exact ⟨by first | (simp; done) | (simp; omega), Below.refl _ _⟩
    · have h8 : ¬ 97 ≤ c := by omega
      have h9 : ¬ 65 ≤ c := by omega
      go_enter Tryd.func3, Tryd.ntmps3
      go_wp2
      all_goals go_ret
      all_goals exact ⟨by first | (simp; done) | (simp; omega), Below.refl _ _⟩
end Go.Proofs.YtpdlogaghannkaaDoor
