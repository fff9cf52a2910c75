/-
  FnPrecedenceBySpelling: for every int n, Token(n).Precedence() is the precedence of its printed spelling. Conditions: none beside the tables, which the card ties to the program's text.
-/
import Derived.Test.YtcbpdhdninafeaaDoorTok
namespace Go.Proofs.YtcbpdhdninafeaaDoor
open Go.ChangeShapes Go.WideShapes Go.ChangeAt Go.RowKit

def prec (n : Int) : Int := if n = 34 then 1 else if n = 33 then 2 else if n = 37 ∨ n = 42 ∨ n = 38 ∨ n = 43 ∨ n = 39 ∨ n = 44 then 3 else if n = 11 ∨ n = 12 ∨ n = 17 ∨ n = 18 then 4 else if n = 13 ∨ n = 14 ∨ n = 15 ∨ n = 19 ∨ n = 20 ∨ n = 16 ∨ n = 21 then 5 else 0
def precOf (s : List UInt8) : Int := if s = [124, 124] then 1 else if s = [38, 38] then 2 else if s = [61, 61] ∨ s = [33, 61] ∨ s = [60] ∨ s = [60, 61] ∨ s = [62] ∨ s = [62, 61] then 3 else if s = [43] ∨ s = [45] ∨ s = [124] ∨ s = [94] then 4 else if s = [42] ∨ s = [47] ∨ s = [37] ∨ s = [60, 60] ∨ s = [62, 62] ∨ s = [38] ∨ s = [38, 94] then 5 else 0

def IntPost (k : Int) (w : World) (e : Ending) (w' : World) : Prop := e = .returned (.int .i64 k) ∧ w = w'

set_option maxHeartbeats 1000000 in
theorem prec_any (n : Int) (w : World) : Calls Tryd.prog 6 #[.int .i64 n] w (IntPost (prec n) w) := by
  go_enter Tryd.func6, Tryd.ntmps6
  go_wp2
  all_goals go_ret
  all_goals exact ⟨by congr 2; simp only [beq_iff_eq, beq_eq_false_iff_ne, ne_eq] at *; simp [prec, *], rfl⟩

set_option maxHeartbeats 4000000 in
theorem precOf_any (s : List UInt8) (w : World) : Calls Tryd.prog 7 #[.string ⟨s.toArray⟩] w (IntPost (precOf s) w) := by
  by_cases h0 : s = [124, 124]
  · subst h0
    go_enter Tryd.func7, Tryd.ntmps7
    go_wp2
    go_ret
    exact ⟨rfl, rfl⟩
  have g0 : (s == [124, 124]) = false := by simpa using h0
  have H0 := Lib.hid h0
  clear h0
  by_cases h1 : s = [38, 38]
  · subst h1
    clear g0 H0
    go_enter Tryd.func7, Tryd.ntmps7
    go_wp2
    go_ret
    exact ⟨rfl, rfl⟩
  have g1 : (s == [38, 38]) = false := by simpa using h1
  have H1 := Lib.hid h1
  clear h1
  by_cases h2 : s = [61, 61]
  · subst h2
    clear g0 H0 g1 H1
    go_enter Tryd.func7, Tryd.ntmps7
    go_wp2
    go_ret
    exact ⟨rfl, rfl⟩
  have g2 : (s == [61, 61]) = false := by simpa using h2
  have H2 := Lib.hid h2
  clear h2
  by_cases h3 : s = [33, 61]
  · subst h3
    clear g0 H0 g1 H1 g2 H2
    go_enter Tryd.func7, Tryd.ntmps7
    go_wp2
    go_ret
    exact ⟨rfl, rfl⟩
  have g3 : (s == [33, 61]) = false := by simpa using h3
  have H3 := Lib.hid h3
  clear h3
  by_cases h4 : s = [60]
  · subst h4
    clear g0 H0 g1 H1 g2 H2 g3 H3
    go_enter Tryd.func7, Tryd.ntmps7
    go_wp2
    go_ret
    exact ⟨rfl, rfl⟩
  have g4 : (s == [60]) = false := by simpa using h4
  have H4 := Lib.hid h4
  clear h4
  by_cases h5 : s = [60, 61]
  · subst h5
    clear g0 H0 g1 H1 g2 H2 g3 H3 g4 H4
    go_enter Tryd.func7, Tryd.ntmps7
    go_wp2
    go_ret
    exact ⟨rfl, rfl⟩
  have g5 : (s == [60, 61]) = false := by simpa using h5
  have H5 := Lib.hid h5
  clear h5
  by_cases h6 : s = [62]
  · subst h6
    clear g0 H0 g1 H1 g2 H2 g3 H3 g4 H4 g5 H5
    go_enter Tryd.func7, Tryd.ntmps7
    go_wp2
    go_ret
    exact ⟨rfl, rfl⟩
  have g6 : (s == [62]) = false := by simpa using h6
  have H6 := Lib.hid h6
  clear h6
  by_cases h7 : s = [62, 61]
  · subst h7
    clear g0 H0 g1 H1 g2 H2 g3 H3 g4 H4 g5 H5 g6 H6
    go_enter Tryd.func7, Tryd.ntmps7
    go_wp2
    go_ret
    exact ⟨rfl, rfl⟩
  have g7 : (s == [62, 61]) = false := by simpa using h7
  have H7 := Lib.hid h7
  clear h7
  by_cases h8 : s = [43]
  · subst h8
    clear g0 H0 g1 H1 g2 H2 g3 H3 g4 H4 g5 H5 g6 H6 g7 H7
    go_enter Tryd.func7, Tryd.ntmps7
    go_wp2
    go_ret
    exact ⟨rfl, rfl⟩
  have g8 : (s == [43]) = false := by simpa using h8
  have H8 := Lib.hid h8
  clear h8
  by_cases h9 : s = [45]
  · subst h9
    clear g0 H0 g1 H1 g2 H2 g3 H3 g4 H4 g5 H5 g6 H6 g7 H7 g8 H8
    go_enter Tryd.func7, Tryd.ntmps7
    go_wp2
    go_ret
    exact ⟨rfl, rfl⟩
  have g9 : (s == [45]) = false := by simpa using h9
  have H9 := Lib.hid h9
  clear h9
  by_cases h10 : s = [124]
  · subst h10
    clear g0 H0 g1 H1 g2 H2 g3 H3 g4 H4 g5 H5 g6 H6 g7 H7 g8 H8 g9 H9
    go_enter Tryd.func7, Tryd.ntmps7
    go_wp2
    go_ret
    exact ⟨rfl, rfl⟩
  have g10 : (s == [124]) = false := by simpa using h10
  have H10 := Lib.hid h10
  clear h10
  by_cases h11 : s = [94]
  · subst h11
    clear g0 H0 g1 H1 g2 H2 g3 H3 g4 H4 g5 H5 g6 H6 g7 H7 g8 H8 g9 H9 g10 H10
    go_enter Tryd.func7, Tryd.ntmps7
    go_wp2
    go_ret
    exact ⟨rfl, rfl⟩
  have g11 : (s == [94]) = false := by simpa using h11
  have H11 := Lib.hid h11
  clear h11
  by_cases h12 : s = [42]
  · subst h12
    clear g0 H0 g1 H1 g2 H2 g3 H3 g4 H4 g5 H5 g6 H6 g7 H7 g8 H8 g9 H9 g10 H10 g11 H11
    go_enter Tryd.func7, Tryd.ntmps7
    go_wp2
    go_ret
    exact ⟨rfl, rfl⟩
  have g12 : (s == [42]) = false := by simpa using h12
  have H12 := Lib.hid h12
  clear h12
  by_cases h13 : s = [47]
  · subst h13
    clear g0 H0 g1 H1 g2 H2 g3 H3 g4 H4 g5 H5 g6 H6 g7 H7 g8 H8 g9 H9 g10 H10 g11 H11 g12 H12
    go_enter Tryd.func7, Tryd.ntmps7
    go_wp2
    go_ret
    exact ⟨rfl, rfl⟩
  have g13 : (s == [47]) = false := by simpa using h13
  have H13 := Lib.hid h13
  clear h13
  by_cases h14 : s = [37]
  · subst h14
    clear g0 H0 g1 H1 g2 H2 g3 H3 g4 H4 g5 H5 g6 H6 g7 H7 g8 H8 g9 H9 g10 H10 g11 H11 g12 H12 g13 H13
    go_enter Tryd.func7, Tryd.ntmps7
    go_wp2
    go_ret
    exact ⟨rfl, rfl⟩
  have g14 : (s == [37]) = false := by simpa using h14
  have H14 := Lib.hid h14
  clear h14
  by_cases h15 : s = [60, 60]
  · subst h15
    clear g0 H0 g1 H1 g2 H2 g3 H3 g4 H4 g5 H5 g6 H6 g7 H7 g8 H8 g9 H9 g10 H10 g11 H11 g12 H12 g13 H13 g14 H14
    go_enter Tryd.func7, Tryd.ntmps7
    go_wp2
    go_ret
    exact ⟨rfl, rfl⟩
  have g15 : (s == [60, 60]) = false := by simpa using h15
  have H15 := Lib.hid h15
  clear h15
  by_cases h16 : s = [62, 62]
  · subst h16
    clear g0 H0 g1 H1 g2 H2 g3 H3 g4 H4 g5 H5 g6 H6 g7 H7 g8 H8 g9 H9 g10 H10 g11 H11 g12 H12 g13 H13 g14 H14 g15 H15
    go_enter Tryd.func7, Tryd.ntmps7
    go_wp2
    go_ret
    exact ⟨rfl, rfl⟩
  have g16 : (s == [62, 62]) = false := by simpa using h16
  have H16 := Lib.hid h16
  clear h16
  by_cases h17 : s = [38]
  · subst h17
    clear g0 H0 g1 H1 g2 H2 g3 H3 g4 H4 g5 H5 g6 H6 g7 H7 g8 H8 g9 H9 g10 H10 g11 H11 g12 H12 g13 H13 g14 H14 g15 H15 g16 H16
    go_enter Tryd.func7, Tryd.ntmps7
    go_wp2
    go_ret
    exact ⟨rfl, rfl⟩
  have g17 : (s == [38]) = false := by simpa using h17
  have H17 := Lib.hid h17
  clear h17
  by_cases h18 : s = [38, 94]
  · subst h18
    clear g0 H0 g1 H1 g2 H2 g3 H3 g4 H4 g5 H5 g6 H6 g7 H7 g8 H8 g9 H9 g10 H10 g11 H11 g12 H12 g13 H13 g14 H14 g15 H15 g16 H16 g17 H17
    go_enter Tryd.func7, Tryd.ntmps7
    go_wp2
    go_ret
    exact ⟨rfl, rfl⟩
  have g18 : (s == [38, 94]) = false := by simpa using h18
  have H18 := Lib.hid h18
  clear h18
  go_enter Tryd.func7, Tryd.ntmps7
  go_wp2
  go_ret
  refine ⟨?_, rfl⟩
  simp [precOf, H0.out, H1.out, H2.out, H3.out, H4.out, H5.out, H6.out, H7.out, H8.out, H9.out, H10.out, H11.out, H12.out, H13.out, H14.out, H15.out, H16.out, H17.out, H18.out]

end Go.Proofs.YtcbpdhdninafeaaDoor
