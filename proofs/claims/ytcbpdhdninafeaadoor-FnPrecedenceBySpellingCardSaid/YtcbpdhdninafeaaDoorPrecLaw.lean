/-
  FnPrecedenceBySpelling: for every int n, Token(n).Precedence() is the precedence of its printed spelling. Conditions: none beside the tables, which the card ties to the program's text.
-/
import Derived.Test.YtcbpdhdninafeaaDoorPrec
import Derived.Test.YtcbpdhdninafeaaDoorLaid
namespace Go.Proofs.YtcbpdhdninafeaaDoor
open Go.ChangeShapes Go.WideShapes Go.ChangeAt Go.RowKit

theorem prec_in : ∀ i : Fin 75, tokTab.getD i.val [] ≠ [] → prec i.val = precOf (tokTab.getD i.val []) := by decide +kernel
theorem prec_blank : ∀ i : Fin 75, tokTab.getD i.val [] = [] → prec i.val = 0 := by decide +kernel
theorem precOf_other (n : Int) : precOf (tokOther n) = 0 := by simp [precOf, tokOther, tokenOpen]
theorem prec_plain (n : Int) : prec n = precOf (tokName n) := by
  unfold tokName
  by_cases h : 0 ≤ n ∧ n < 75
  · have e : n = ((⟨n.toNat, by omega⟩ : Fin 75).val : Int) := by simp; omega
    have ea : tokAt n = tokTab.getD n.toNat [] := by simp [tokAt, h]
    rw [ea]
    by_cases hz : tokTab.getD n.toNat [] = []
    · rw [if_pos hz, precOf_other, e]
      exact prec_blank _ hz
    · rw [if_neg hz]
      have := prec_in ⟨n.toNat, by omega⟩ hz
      rw [← e] at this
      exact this
  · have ea : tokAt n = [] := by simp [tokAt, h]
    rw [if_pos ea, precOf_other]
    unfold prec
    repeat (first | rw [if_neg (by omega)])

set_option maxHeartbeats 400000 in
theorem prec_law (n : Int) (w : World) (hn0 : -9223372036854775808 ≤ n) (hn1 : n ≤ 9223372036854775807) (hw : TokWorld w) :
    Calls Tryd.prog 3 #[.int .i64 n] w fun e w' => e = .returned (.bool true) ∧ Below w.heap.size w w' := by
  have HW := Lib.hid hw
  clear hw
  go_enter Tryd.func3, Tryd.ntmps3
  go_wp2_with (first
    | (go_at_call 6; refine (prec_any _ _).mono ?_; rintro e w' ⟨rfl, rfl⟩)
    | (go_at_call 8; refine (tok_string _ _ hn0 hn1 HW.out).mono ?_; rintro e w1 ⟨rfl, hb⟩)
    | (go_at_call 7; refine (precOf_any _ _).mono ?_; rintro e w' ⟨rfl, rfl⟩))
  go_ret
  exact ⟨by rw [prec_plain]; simp, hb⟩

end Go.Proofs.YtcbpdhdninafeaaDoor
