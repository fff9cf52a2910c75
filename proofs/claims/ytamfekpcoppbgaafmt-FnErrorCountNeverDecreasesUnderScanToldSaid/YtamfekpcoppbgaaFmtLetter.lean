/-
  What parser.isLetter computes: an ASCII letter or the underscore, or a letter of Go's own tables from 128 on. At ASCII no table is read.
-/
import Derived.Test.YtamfekpcoppbgaaFmtKit
import Derived.Test.YtamfekpcoppbgaaFmtShelf
import Derived.Lib.Hide
namespace Go.Proofs.YtamfekpcoppbgaaFmt
open Go.RowKit

def asciiLetter (c : Int) : Bool := decide ((97 ≤ c ∧ c ≤ 122) ∨ (65 ≤ c ∧ c ≤ 90) ∨ c = 95)
def isLetterG (c : Int) : Bool := asciiLetter c || (decide (128 ≤ c) && Lib.isLetterU c)

structure LetterTabs (w : World) : Prop where
  prop : Lib.TabIs Tryf.prog w "unicode.properties" .u8 Lib.propertiesTab
  letter : Lib.RVar 2 Lib.letterT w

set_option maxHeartbeats 1000000 in
theorem isLetter_ascii (c : Int) (w : World) (h : c < 128) :
    Calls Tryf.prog 32 #[.int .i32 c] w fun e w' => e = .returned (.bool (asciiLetter c)) ∧ w = w' := by
  have h128 : ¬ 128 ≤ c := by omega
  by_cases h1 : 97 ≤ c <;> by_cases h2 : c ≤ 122 <;> by_cases h3 : 65 ≤ c <;> by_cases h4 : c ≤ 90 <;> by_cases h5 : c = 95 <;> try (exfalso; omega)
  all_goals
    first
      | (have t5 : (c == 95) = true := by simpa using h5)
      | (have t5 : (c == 95) = false := by simpa using h5)
    have H5 := Lib.hid h5
    clear h5
    go_enter Tryf.func32, Tryf.ntmps32
    go_wp2_with fail
    go_ret
    refine ⟨?_, rfl⟩
    have h5 := H5.out
    first
      | (have e : asciiLetter c = true := by simp [asciiLetter]; omega
         rw [e]; rfl)
      | (have e : asciiLetter c = false := by simp [asciiLetter]; omega
         rw [e]; rfl)

set_option maxHeartbeats 1000000 in
theorem isLetter_wide (c : Int) (w : World) (h : 128 ≤ c) (h1 : c ≤ 2147483647) (hT : LetterTabs w) :
    Calls Tryf.prog 32 #[.int .i32 c] w fun e w' => e = .returned (.bool (Lib.isLetterU c)) ∧ Below w.heap.size w w' := by
  have H := Lib.hid hT
  clear hT
  have t1 : ¬ c ≤ 122 := by omega
  have t2 : ¬ c ≤ 90 := by omega
  have t5 : (c == 95) = false := by simp; omega
  have t6 : 97 ≤ c := by omega
  have t7 : 65 ≤ c := by omega
  go_enter Tryf.func32, Tryf.ntmps32
  go_wp2_with (go_at_call 51; refine (Tryf.unicode_IsLetter_all _ _ (by omega) (by omega) H.out.prop H.out.letter).mono ?_; rintro e w1 ⟨rfl, hb⟩; have HB := Lib.hid hb; clear hb)
  go_ret
  exact ⟨rfl, HB.out⟩

/-- at every rune -/
theorem isLetter_any (c : Int) (w : World) (h1 : c ≤ 2147483647) (hT : LetterTabs w) :
    Calls Tryf.prog 32 #[.int .i32 c] w fun e w' => e = .returned (.bool (isLetterG c)) ∧ Below w.heap.size w w' := by
  by_cases h : 128 ≤ c
  · have e : isLetterG c = Lib.isLetterU c := by
      have : asciiLetter c = false := by simp [asciiLetter]; omega
      simp [isLetterG, this, h]
    rw [e]
    exact isLetter_wide c w h h1 hT
  · have e : isLetterG c = asciiLetter c := by simp [isLetterG, h]
    rw [e]
    refine (isLetter_ascii c w (by omega)).mono ?_
    rintro e w' ⟨rfl, rfl⟩
    exact ⟨rfl, Below.refl _ _⟩

end Go.Proofs.YtamfekpcoppbgaaFmt
