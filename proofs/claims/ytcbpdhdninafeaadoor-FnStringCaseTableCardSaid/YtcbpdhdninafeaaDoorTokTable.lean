/-
  FnStringCaseTable: for every int n, Token(n).String() is the documented name, or token(n). Conditions: none beside the tables, which the card ties to the program's text.
-/
import Derived.Test.YtcbpdhdninafeaaDoorLaid
import Derived.Test.YtcbpdhdninafeaaDoorItoa
namespace Go.Proofs.YtcbpdhdninafeaaDoor
open Go.ChangeShapes Go.WideShapes Go.ChangeAt Go.RowKit

def namedKs : List Int := [0, 1, 2, 4, 5, 6, 7, 8, 11, 12, 13, 14, 15, 16, 17, 18, 19, 20, 21, 22, 23, 24, 25, 26, 27, 28, 29, 30, 31, 32, 33, 34, 35, 36, 37, 38, 39, 40, 41, 42, 43, 44, 45, 46, 47, 48, 49, 50, 51, 52, 53, 54, 55, 56, 57, 60, 61, 62, 63, 64, 65, 66, 67, 68, 69, 70, 71, 72, 73, 74]
theorem blank_fin : ∀ i : Fin 75, (∀ k ∈ namedKs, ((i.val : Int) == k) = false) → tokTab.getD i.val [] = [] := by decide +kernel
theorem blank_of (n : Int) (h : ∀ k ∈ namedKs, (n == k) = false) : tokAt n = [] := by
  by_cases hb : 0 ≤ n ∧ n < 75
  · have e : n = ((⟨n.toNat, by omega⟩ : Fin 75).val : Int) := by simp; omega
    have ea : tokAt n = tokTab.getD n.toNat [] := by simp [tokAt, hb]
    rw [ea]
    refine blank_fin ⟨n.toNat, by omega⟩ (fun k hk => ?_)
    rw [← e]
    exact h k hk
  · simp [tokAt, hb]

def NamePost (n : Int) (w : World) (e : Ending) (w' : World) : Prop := e = .returned (.tuple #[.string ⟨(tokAt n).toArray⟩, .bool (!(tokAt n).isEmpty)]) ∧ w = w'

theorem name_at {n : Int} {w : World} (k : Int) (l : List UInt8) (hk : tokAt k = l) (hl : (!l.isEmpty) = true) (h : (n == k) = true) : NamePost n w (.returned (.tuple #[.string ⟨l.toArray⟩, .bool true])) w := by
  obtain rfl : n = k := by simpa using h
  subst hk
  exact ⟨by rw [hl], rfl⟩

set_option maxHeartbeats 4000000 in
theorem name_any (n : Int) (w : World) : Calls Tryd.prog 9 #[.int .i64 n] w (NamePost n w) := by
  go_enter Tryd.func9, Tryd.ntmps9
  go_wp2
  all_goals go_ret2
  · exact name_at 0 [73, 76, 76, 69, 71, 65, 76] (by rfl) (by rfl) (by assumption)
  · exact name_at 1 [69, 79, 70] (by rfl) (by rfl) (by assumption)
  · exact name_at 2 [67, 79, 77, 77, 69, 78, 84] (by rfl) (by rfl) (by assumption)
  · exact name_at 4 [73, 68, 69, 78, 84] (by rfl) (by rfl) (by assumption)
  · exact name_at 5 [73, 78, 84] (by rfl) (by rfl) (by assumption)
  · exact name_at 6 [70, 76, 79, 65, 84] (by rfl) (by rfl) (by assumption)
  · exact name_at 7 [67, 72, 65, 82] (by rfl) (by rfl) (by assumption)
  · exact name_at 8 [83, 84, 82, 73, 78, 71] (by rfl) (by rfl) (by assumption)
  · exact name_at 11 [43] (by rfl) (by rfl) (by assumption)
  · exact name_at 12 [45] (by rfl) (by rfl) (by assumption)
  · exact name_at 13 [42] (by rfl) (by rfl) (by assumption)
  · exact name_at 14 [47] (by rfl) (by rfl) (by assumption)
  · exact name_at 15 [37] (by rfl) (by rfl) (by assumption)
  · exact name_at 16 [38] (by rfl) (by rfl) (by assumption)
  · exact name_at 17 [124] (by rfl) (by rfl) (by assumption)
  · exact name_at 18 [94] (by rfl) (by rfl) (by assumption)
  · exact name_at 19 [60, 60] (by rfl) (by rfl) (by assumption)
  · exact name_at 20 [62, 62] (by rfl) (by rfl) (by assumption)
  · exact name_at 21 [38, 94] (by rfl) (by rfl) (by assumption)
  · exact name_at 22 [43, 61] (by rfl) (by rfl) (by assumption)
  · exact name_at 23 [45, 61] (by rfl) (by rfl) (by assumption)
  · exact name_at 24 [42, 61] (by rfl) (by rfl) (by assumption)
  · exact name_at 25 [47, 61] (by rfl) (by rfl) (by assumption)
  · exact name_at 26 [37, 61] (by rfl) (by rfl) (by assumption)
  · exact name_at 27 [38, 61] (by rfl) (by rfl) (by assumption)
  · exact name_at 28 [124, 61] (by rfl) (by rfl) (by assumption)
  · exact name_at 29 [94, 61] (by rfl) (by rfl) (by assumption)
  · exact name_at 30 [60, 60, 61] (by rfl) (by rfl) (by assumption)
  · exact name_at 31 [62, 62, 61] (by rfl) (by rfl) (by assumption)
  · exact name_at 32 [38, 94, 61] (by rfl) (by rfl) (by assumption)
  · exact name_at 33 [38, 38] (by rfl) (by rfl) (by assumption)
  · exact name_at 34 [124, 124] (by rfl) (by rfl) (by assumption)
  · exact name_at 35 [43, 43] (by rfl) (by rfl) (by assumption)
  · exact name_at 36 [45, 45] (by rfl) (by rfl) (by assumption)
  · exact name_at 37 [61, 61] (by rfl) (by rfl) (by assumption)
  · exact name_at 38 [60] (by rfl) (by rfl) (by assumption)
  · exact name_at 39 [62] (by rfl) (by rfl) (by assumption)
  · exact name_at 40 [61] (by rfl) (by rfl) (by assumption)
  · exact name_at 41 [33] (by rfl) (by rfl) (by assumption)
  · exact name_at 42 [33, 61] (by rfl) (by rfl) (by assumption)
  · exact name_at 43 [60, 61] (by rfl) (by rfl) (by assumption)
  · exact name_at 44 [62, 61] (by rfl) (by rfl) (by assumption)
  · exact name_at 45 [58, 61] (by rfl) (by rfl) (by assumption)
  · exact name_at 46 [46, 46, 46] (by rfl) (by rfl) (by assumption)
  · exact name_at 47 [40] (by rfl) (by rfl) (by assumption)
  · exact name_at 48 [91] (by rfl) (by rfl) (by assumption)
  · exact name_at 49 [123] (by rfl) (by rfl) (by assumption)
  · exact name_at 50 [44] (by rfl) (by rfl) (by assumption)
  · exact name_at 51 [46] (by rfl) (by rfl) (by assumption)
  · exact name_at 52 [41] (by rfl) (by rfl) (by assumption)
  · exact name_at 53 [93] (by rfl) (by rfl) (by assumption)
  · exact name_at 54 [125] (by rfl) (by rfl) (by assumption)
  · exact name_at 55 [59] (by rfl) (by rfl) (by assumption)
  · exact name_at 56 [58] (by rfl) (by rfl) (by assumption)
  · exact name_at 57 [63] (by rfl) (by rfl) (by assumption)
  · exact name_at 60 [98, 114, 101, 97, 107] (by rfl) (by rfl) (by assumption)
  · exact name_at 61 [99, 111, 110, 116, 105, 110, 117, 101] (by rfl) (by rfl) (by assumption)
  · exact name_at 62 [101, 108, 115, 101] (by rfl) (by rfl) (by assumption)
  · exact name_at 63 [102, 111, 114] (by rfl) (by rfl) (by assumption)
  · exact name_at 64 [102, 117, 110, 99] (by rfl) (by rfl) (by assumption)
  · exact name_at 65 [101, 114, 114, 111, 114] (by rfl) (by rfl) (by assumption)
  · exact name_at 66 [105, 109, 109, 117, 116, 97, 98, 108, 101] (by rfl) (by rfl) (by assumption)
  · exact name_at 67 [105, 102] (by rfl) (by rfl) (by assumption)
  · exact name_at 68 [114, 101, 116, 117, 114, 110] (by rfl) (by rfl) (by assumption)
  · exact name_at 69 [101, 120, 112, 111, 114, 116] (by rfl) (by rfl) (by assumption)
  · exact name_at 70 [116, 114, 117, 101] (by rfl) (by rfl) (by assumption)
  · exact name_at 71 [102, 97, 108, 115, 101] (by rfl) (by rfl) (by assumption)
  · exact name_at 72 [105, 110] (by rfl) (by rfl) (by assumption)
  · exact name_at 73 [117, 110, 100, 101, 102, 105, 110, 101, 100] (by rfl) (by rfl) (by assumption)
  · exact name_at 74 [105, 109, 112, 111, 114, 116] (by rfl) (by rfl) (by assumption)
  · have hz : tokAt n = [] := blank_of n (by
      intro k hk
      simp only [namedKs, List.mem_cons, List.not_mem_nil, or_false] at hk
      rcases hk with rfl | rfl | rfl | rfl | rfl | rfl | rfl | rfl | rfl | rfl | rfl | rfl | rfl | rfl | rfl | rfl | rfl | rfl | rfl | rfl | rfl | rfl | rfl | rfl | rfl | rfl | rfl | rfl | rfl | rfl | rfl | rfl | rfl | rfl | rfl | rfl | rfl | rfl | rfl | rfl | rfl | rfl | rfl | rfl | rfl | rfl | rfl | rfl | rfl | rfl | rfl | rfl | rfl | rfl | rfl | rfl | rfl | rfl | rfl | rfl | rfl | rfl | rfl | rfl | rfl | rfl | rfl | rfl | rfl | rfl
      all_goals assumption)
    exact ⟨by rw [hz]; rfl, rfl⟩

set_option maxHeartbeats 400000 in
theorem table_law (n : Int) (w : World) (hn0 : -9223372036854775808 ≤ n) (hn1 : n ≤ 9223372036854775807) (hw : TokWorld w) :
    Calls Tryd.prog 4 #[.int .i64 n] w fun e w' => e = .returned (.bool true) ∧ Below w.heap.size w w' := by
  have HW := Lib.hid hw
  clear hw
  have hlen := Lib.itoa_length_le n hn0 hn1
  by_cases hz : tokAt n = []
  · have hb : (!(tokAt n).isEmpty) = false := by rw [hz]; rfl
    have HN : Hid (tokName n = tokOther n) := by unfold Hid tokName; rw [if_pos hz]
    have HZ := Lib.hid hz
    clear hz
    go_enter Tryd.func4, Tryd.ntmps4
    go_wp2_with (first
      | (go_at_call 9; refine (name_any _ _).mono ?_; rintro e w' ⟨rfl, rfl⟩)
      | (go_at_call 10; refine (itoa_any _ _ hn0 hn1).mono ?_; rintro e w1 ⟨rfl, hb1⟩; have HB := Lib.hid hb1; clear hb1)
      | (go_at_call 8; refine (tok_string _ _ hn0 hn1 (HW.out.below HB.out)).mono ?_; rintro e w2 ⟨rfl, hb2⟩; have HC := Lib.hid hb2; clear hb2))
    go_ret
    refine ⟨?_, HB.out.trans (HC.out.mono HB.out.size)⟩
    rw [HN.out]
    simp [tokOther, tokenOpen, ByteArray.toList_eq]
  · have hb : (!(tokAt n).isEmpty) = true := by simpa using hz
    have HN : Hid (tokName n = tokAt n) := by unfold Hid tokName; rw [if_neg hz]
    have HZ := Lib.hid hz
    clear hz
    go_enter Tryd.func4, Tryd.ntmps4
    go_wp2_with (first
      | (go_at_call 9; refine (name_any _ _).mono ?_; rintro e w' ⟨rfl, rfl⟩)
      | (go_at_call 8; refine (tok_string _ _ hn0 hn1 HW.out).mono ?_; rintro e w2 ⟨rfl, hb2⟩; have HC := Lib.hid hb2; clear hb2))
    go_ret
    refine ⟨?_, HC.out⟩
    rw [HN.out]
    simp

end Go.Proofs.YtcbpdhdninafeaaDoor
