/-
  FnIsOperatorBySpelling: for every int n, IsOperator holds exactly when the printed spelling is non-empty punctuation. Conditions: none beside the tables, which the card ties to the program's text.
-/
import Derived.Test.YtcbpdhdninafeaaDoorLaid
namespace Go.Proofs.YtcbpdhdninafeaaDoor
open Go.ChangeShapes Go.WideShapes Go.ChangeAt Go.RowKit

def isPunct (x : Int) : Bool := decide (x = 43 ∨ x = 45 ∨ x = 42 ∨ x = 47 ∨ x = 37 ∨ x = 38 ∨ x = 124 ∨ x = 94 ∨ x = 60 ∨ x = 62 ∨ x = 61 ∨ x = 33 ∨ x = 46 ∨ x = 40 ∨ x = 91 ∨ x = 123 ∨ x = 44 ∨ x = 41 ∨ x = 93 ∨ x = 125 ∨ x = 59 ∨ x = 58 ∨ x = 63)
def isOp (n : Int) : Bool := decide (10 < n ∧ n < 58)
def allPunct (l : List UInt8) : Bool := l.all fun c => isPunct c.toNat

def BoolPost (b : Bool) (w : World) (e : Ending) (w' : World) : Prop := e = .returned (.bool b) ∧ w = w'

set_option maxHeartbeats 1000000 in
theorem punct_any (x : Int) (w : World) : Calls Tryd.prog 11 #[.int .u8 x] w (BoolPost (isPunct x) w) := by
  go_enter Tryd.func11, Tryd.ntmps11
  go_wp2
  all_goals go_ret
  all_goals exact ⟨by congr 2; simp only [beq_iff_eq, beq_eq_false_iff_ne, ne_eq] at *; simp [isPunct, *], rfl⟩

set_option maxHeartbeats 400000 in
theorem isOp_any (n : Int) (w : World) : Calls Tryd.prog 12 #[.int .i64 n] w (BoolPost (isOp n) w) := by
  by_cases h1 : 10 < n <;> by_cases h2 : n < 58
  all_goals
    go_enter Tryd.func12, Tryd.ntmps12
    go_wp2
    go_ret
    exact ⟨by simp [isOp, h1, h2], rfl⟩

theorem op_in : ∀ i : Fin 75, tokTab.getD i.val [] ≠ [] → isOp i.val = allPunct (tokTab.getD i.val []) := by decide +kernel
theorem op_blank : ∀ i : Fin 75, tokTab.getD i.val [] = [] → isOp i.val = false := by decide +kernel
theorem op_other (n : Int) : allPunct (tokOther n) = false := by simp [allPunct, tokOther, tokenOpen, isPunct]
theorem name_ne (n : Int) : tokName n ≠ [] := by
  unfold tokName
  by_cases h : tokAt n = []
  · rw [if_pos h]; simp [tokOther, tokenOpen]
  · rw [if_neg h]; exact h
theorem op_plain (n : Int) : isOp n = allPunct (tokName n) := by
  unfold tokName
  by_cases h : 0 ≤ n ∧ n < 75
  · have e : n = ((⟨n.toNat, by omega⟩ : Fin 75).val : Int) := by simp; omega
    have ea : tokAt n = tokTab.getD n.toNat [] := by simp [tokAt, h]
    rw [ea]
    by_cases hz : tokTab.getD n.toNat [] = []
    · rw [if_pos hz, op_other, e]
      exact op_blank _ hz
    · rw [if_neg hz]
      have := op_in ⟨n.toNat, by omega⟩ hz
      rw [← e] at this
      exact this
  · have ea : tokAt n = [] := by simp [tokAt, h]
    rw [if_pos ea, op_other]
    simp [isOp]
    omega

theorem take_snoc (l : List UInt8) (k : Nat) (h : k < l.length) : l.take (k + 1) = l.take k ++ [l[k]] := by
  rw [List.take_succ_eq_append_getElem h]
theorem all_snoc (l : List UInt8) (k : Nat) (h : k < l.length) : allPunct (l.take (k + 1)) = (allPunct (l.take k) && isPunct (l[k].toNat)) := by
  unfold allPunct
  rw [take_snoc l k h, List.all_append]
  simp only [List.all_cons, List.all_nil, Bool.and_true]
theorem name_short (n : Int) (h0 : -9223372036854775808 ≤ n) (h1 : n ≤ 9223372036854775807) : (tokName n).length ≤ 100 := by
  have hi := Lib.itoa_length_le n h0 h1
  unfold tokName
  by_cases h : tokAt n = []
  · rw [if_pos h]; simp [tokOther, tokenOpen]; omega
  · rw [if_neg h]
    unfold tokAt
    by_cases hb : 0 ≤ n ∧ n < 75
    · rw [if_pos hb]
      have hall : ∀ i : Fin 75, (tokTab.getD i.val []).length ≤ 100 := by decide +kernel
      exact hall ⟨n.toNat, by omega⟩
    · rw [if_neg hb]; simp

set_option maxHeartbeats 1000000 in
theorem oper_law (n : Int) (w : World) (hn0 : -9223372036854775808 ≤ n) (hn1 : n ≤ 9223372036854775807) (hw : TokWorld w) :
    Calls Tryd.prog 5 #[.int .i64 n] w fun e w' => e = .returned (.bool true) ∧ Below w.heap.size w w' := by
  have HW := Lib.hid hw
  clear hw
  have HN := name_ne n
  have hU := name_short n hn0 hn1
  have HP := Lib.hid (op_plain n)
  generalize hL : tokName n = L at HN HP hU
  have hlen : 0 < L.length := by cases L <;> simp_all
  have HL := Lib.hid hL
  clear hL HN
  go_enter Tryd.func5, Tryd.ntmps5
  go_wp2_with (go_at_call 8; refine (tok_string _ _ hn0 hn1 HW.out).mono ?_; rw [HL.out]; rintro e w1 ⟨rfl, hb⟩; have HB := Lib.hid hb; clear hb)
  go_loop [5, 6] (fun want i => ∃ k : Nat, k ≤ L.length ∧ i = .int .i64 k ∧ want = .bool (allPunct (L.take k))) (fun _ i => L.length - (intOf i).toNat)
  case atStart => exact ⟨0, Nat.zero_le _, rfl, by simp [allPunct]⟩
  case round =>
    obtain ⟨k, hk, rfl, rfl⟩ := hrel
    by_cases hlt : k < L.length
    · have HS := Lib.hid (all_snoc L k hlt)
      go_wp2_with (go_at_call 11; refine (punct_any _ _).mono ?_; rintro e w' ⟨rfl, rfl⟩)
      all_goals
        go_round
        case rel =>
          refine ⟨k + 1, by omega, by go_num, ?_⟩
          rw [HS.out]
          first
            | (have hp : (!isPunct (L[k].toNat)) = true := by assumption
               have hq : isPunct (L[k].toNat) = false := by simpa using hp
               rw [hq, Bool.and_false]; done)
            | (have hp : (!isPunct (L[k].toNat)) = false := by assumption
               have hq : isPunct (L[k].toNat) = true := by simpa using hp
               rw [hq, Bool.and_true]; done)
        case measure => simp [intOf]; omega
    · have hkk : k = L.length := by omega
      go_wp2_with (go_at_call 12; refine (isOp_any _ _).mono ?_; rintro e w' ⟨rfl, rfl⟩)
      go_ret
      refine ⟨?_, HB.out⟩
      rw [HP.out]
      simp

end Go.Proofs.YtcbpdhdninafeaaDoor
