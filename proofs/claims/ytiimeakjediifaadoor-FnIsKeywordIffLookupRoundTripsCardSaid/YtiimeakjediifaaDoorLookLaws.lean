/-
  The three laws on Lookup, walked: the answer is true. Conditions: none beside the tables, which the cards tie to the program's text.
-/
import Derived.Test.YtiimeakjediifaaDoorLookModel
import Derived.Test.YtiimeakjediifaaDoorLaid
namespace Go.Proofs.YtiimeakjediifaaDoor
open Go.ChangeShapes Go.WideShapes Go.ChangeAt Go.RowKit

theorem tokCells_of_laid {W : World} (h : laidMetH Tryd.prog [("github.com/d5/tengo/v2/token.tokens", Rows.laid_github_com_d5_tengo_v2_token_tokens)] W) : TokCells W := by
  have hm : laidMet Tryd.prog [("github.com/d5/tengo/v2/token.tokens", Rows.laid_github_com_d5_tengo_v2_token_tokens)] W := h
  intro i hi
  exact strs_of_reads (ss := tokTab) g_tok g_tokType Tryd.underlying28 Tryd.underlying9 c_str c_tok (laid_reads hm (by simp only [List.mem_cons]; exact Or.inl rfl)) i (by simpa [tokTab] using hi)
theorem TokWorld.cells {w : World} (h : TokWorld w) : TokCells w := h.tok

noncomputable def tokWorld1 (os : Os) : World :=
  putCells (World.holding Tryd.prog os ⟨#[], #[], []⟩) 0 Rows.laid_github_com_d5_tengo_v2_token_tokens

set_option maxHeartbeats 400000 in
theorem exact_law (s : List UInt8) (w : World) (hs : s.length ≤ 9223372036854775807) (hw : TokCells w) :
    Calls Tryd.prog 3 #[.string ⟨s.toArray⟩] w fun e w' => e = .returned (.bool true) ∧ Below w.heap.size w w' := by
  have HW := Lib.hid hw
  clear hw
  by_cases hl : s.length ≤ 1048576
  · go_enter Tryd.func3, Tryd.ntmps3
    go_wp2_with (first
      | (go_at_call 7; refine (lookup_any _ _ HW.out).mono ?_; rintro e w' ⟨rfl, rfl⟩)
      | (go_at_call 8; refine (model_any _ _).mono ?_; rintro e w' ⟨rfl, rfl⟩)
      | (go_at_call 6; go_in))
    go_ret
    exact ⟨by simp, Below.refl _ _⟩
  · go_enter Tryd.func3, Tryd.ntmps3
    go_wp2_with (first
      | (go_at_call 6; go_in))
    go_ret
    exact ⟨by simp, Below.refl _ _⟩

/-! the keyword round trip -/
def isKw (n : Int) : Bool := decide (59 < n ∧ n < 75)
def isOpr (n : Int) : Bool := decide (10 < n ∧ n < 58)
def isLit (n : Int) : Bool := decide (3 < n ∧ n < 9)
def lowC (c : UInt8) : Bool := decide (97 ≤ c.toNat ∧ c.toNat ≤ 122)
def allLow (l : List UInt8) : Bool := !l.isEmpty && l.all lowC
def TruthPost (b : Bool) (w : World) (e : Ending) (w' : World) : Prop := e = .returned (.bool b) ∧ w = w'

set_option maxHeartbeats 400000 in
theorem isKw_any (n : Int) (w : World) : Calls Tryd.prog 10 #[.int .i64 n] w (TruthPost (isKw n) w) := by
  by_cases h1 : 59 < n <;> by_cases h2 : n < 75
  all_goals
    go_enter Tryd.func10, Tryd.ntmps10
    go_wp2
    go_ret
    exact ⟨by simp [isKw, h1, h2], rfl⟩
set_option maxHeartbeats 400000 in
theorem isOpr_any (n : Int) (w : World) : Calls Tryd.prog 13 #[.int .i64 n] w (TruthPost (isOpr n) w) := by
  by_cases h1 : 10 < n <;> by_cases h2 : n < 58
  all_goals
    go_enter Tryd.func13, Tryd.ntmps13
    go_wp2
    go_ret
    exact ⟨by simp [isOpr, h1, h2], rfl⟩
set_option maxHeartbeats 400000 in
theorem isLit_any (n : Int) (w : World) : Calls Tryd.prog 14 #[.int .i64 n] w (TruthPost (isLit n) w) := by
  by_cases h1 : 3 < n <;> by_cases h2 : n < 9
  all_goals
    go_enter Tryd.func14, Tryd.ntmps14
    go_wp2
    go_ret
    exact ⟨by simp [isLit, h1, h2], rfl⟩

theorem low_snoc (l : List UInt8) (k : Nat) (h : k < l.length) : (l.take (k + 1)).all lowC = ((l.take k).all lowC && lowC l[k]) := by
  rw [List.take_succ_eq_append_getElem h, List.all_append]
  simp only [List.all_cons, List.all_nil, Bool.and_true]
theorem low_yes (c : UInt8) (h1 : ¬ (c.toNat : Int) < 97) (h2 : ¬ 122 < (c.toNat : Int)) : lowC c = true := by
  simp [lowC]; omega
set_option maxHeartbeats 400000 in
theorem low_any (l : List UInt8) (w : World) (hlen : 0 < l.length) (hU : l.length ≤ 1048576) (hall : l.all lowC = true) :
    Calls Tryd.prog 11 #[.string ⟨l.toArray⟩] w (TruthPost true w) := by
  have HA := Lib.hid hall
  clear hall
  have hz : ((l.length : Int) == 0) = false := beq_eq_false_iff_ne.2 (by omega)
  go_enter Tryd.func11, Tryd.ntmps11
  go_wp2
  go_loop [3] (fun i => ∃ k : Nat, k ≤ l.length ∧ i = .int .i64 k) (fun i => l.length - (intOf i).toNat)
  case atStart => exact ⟨0, Nat.zero_le _, rfl⟩
  case round =>
    obtain ⟨k, hk, rfl⟩ := hrel
    by_cases hlt : k < l.length
    · have hc : lowC l[k] = true := by
        have := List.all_eq_true.1 HA.out l[k] (List.getElem_mem _)
        exact this
      have hc2 : 97 ≤ l[k].toNat ∧ l[k].toNat ≤ 122 := by simpa [lowC] using hc
      have h1 : ¬ (((⟨l.toArray⟩ : ByteArray)[k]'hlt).toNat : Int) < 97 := by
        show ¬ ((l[k].toNat : Int) < 97); omega
      have h2 : ¬ 122 < (((⟨l.toArray⟩ : ByteArray)[k]'hlt).toNat : Int) := by
        show ¬ (122 < (l[k].toNat : Int)); omega
      clear hc hc2
      go_wp2
      go_round
      case rel => exact ⟨k + 1, by omega, by go_num⟩
      case measure => simp [intOf]; omega
    · go_wp2
      go_ret
      exact ⟨rfl, rfl⟩

theorem look_range (s : List UInt8) : ∀ (f k : Nat), lookFrom s f k = 4 ∨ ∃ j : Nat, k ≤ j ∧ j < k + f ∧ lookFrom s f k = j ∧ tokNth j = s
  | 0, k => Or.inl rfl
  | f + 1, k => by
    unfold lookFrom
    by_cases h : tokNth k = s
    · rw [if_pos h]
      exact Or.inr ⟨k, by omega, by omega, rfl, h⟩
    · rw [if_neg h]
      rcases look_range s f (k + 1) with h1 | ⟨j, h1, h2, h3, h4⟩
      · exact Or.inl h1
      · exact Or.inr ⟨j, by omega, by omega, h3, h4⟩
theorem look_other (n : Int) : lookup (tokOther n) = 4 := by
  rcases look_range (tokOther n) 15 60 with h | ⟨j, h1, h2, h3, h4⟩
  · exact h
  · exfalso
    have hd : ∀ i : Fin 15, (tokNth (60 + i.val)).take 2 ≠ [116, 111] := by decide +kernel
    have := hd ⟨j - 60, by omega⟩
    rw [show 60 + (j - 60) = j from by omega, h4] at this
    simp [tokOther, tokenOpen] at this
theorem rt_in : ∀ i : Fin 75, tokTab.getD i.val [] ≠ [] → isKw i.val = (decide (lookup (tokTab.getD i.val []) = i.val) && decide ((i.val : Int) ≠ 4)) := by decide +kernel
theorem rt_blank : ∀ i : Fin 75, tokTab.getD i.val [] = [] → isKw i.val = false ∧ (i.val : Int) ≠ 4 := by decide +kernel
theorem low_in : ∀ i : Fin 75, isKw i.val = true → (tokTab.getD i.val []).all lowC = true ∧ 0 < (tokTab.getD i.val []).length ∧ (tokTab.getD i.val []).length ≤ 100 := by decide +kernel
theorem rt_plain (n : Int) : isKw n = (decide (lookup (tokName n) = n) && decide (n ≠ 4)) := by
  unfold tokName
  by_cases h : 0 ≤ n ∧ n < 75
  · have e : n = ((⟨n.toNat, by omega⟩ : Fin 75).val : Int) := by simp; omega
    have ea : tokAt n = tokTab.getD n.toNat [] := by simp [tokAt, h]
    rw [ea]
    by_cases hz : tokTab.getD n.toNat [] = []
    · obtain ⟨h1, h2⟩ := rt_blank ⟨n.toNat, by omega⟩ hz
      rw [← e] at h1 h2
      rw [if_pos hz, look_other, h1]
      have : (4 : Int) ≠ n := fun h => h2 h.symm
      simp [this]
    · rw [if_neg hz]
      have := rt_in ⟨n.toNat, by omega⟩ hz
      rw [← e] at this
      exact this
  · have ea : tokAt n = [] := by simp [tokAt, h]
    rw [if_pos ea, look_other]
    have h1 : isKw n = false := by simp [isKw]; omega
    have : (4 : Int) ≠ n := by omega
    rw [h1]
    simp [this]
theorem low_plain (n : Int) (hk : isKw n = true) : (tokName n).all lowC = true ∧ 0 < (tokName n).length ∧ (tokName n).length ≤ 100 := by
  have h : 59 < n ∧ n < 75 := by simpa [isKw] using hk
  have e : n = ((⟨n.toNat, by omega⟩ : Fin 75).val : Int) := by simp; omega
  have ea : tokAt n = tokTab.getD n.toNat [] := by
    unfold tokAt
    rw [if_pos (by omega)]
  have := low_in ⟨n.toNat, by omega⟩ (by rw [← e]; exact hk)
  have hz : tokAt n ≠ [] := by
    intro hz
    rw [ea] at hz
    have h0 := this.2.1
    rw [hz] at h0
    exact absurd h0 (by simp)
  have en : tokName n = tokAt n := by unfold tokName; rw [if_neg hz]
  rw [en, ea]
  exact this

set_option maxHeartbeats 1000000 in
theorem kw_law (n : Int) (w : World) (hn0 : -9223372036854775808 ≤ n) (hn1 : n ≤ 9223372036854775807) (hw : TokWorld w) :
    Calls Tryd.prog 4 #[.int .i64 n] w fun e w' => e = .returned (.bool true) ∧ Below w.heap.size w w' := by
  have HW := Lib.hid hw
  clear hw
  have hrt := rt_plain n
  have hlow := low_plain n
  generalize hL : tokName n = L at hrt hlow
  have HL := Lib.hid hL
  clear hL
  by_cases hk : isKw n = true
  · obtain ⟨hl1, hl2, hl3⟩ := hlow hk
    rw [hk] at hrt
    have hr : lookup L = n ∧ n ≠ 4 := by simpa using hrt.symm
    have t1 : (lookup L == n) = true := by simpa using hr.1
    have t2 : (n != 4) = true := by simpa using hr.2
    have HA := Lib.hid hl1
    clear hl1 hr hrt hlow
    go_enter Tryd.func4, Tryd.ntmps4
    go_wp2_with (first
      | (go_at_call 9; refine (tok_string _ _ hn0 hn1 HW.out).mono ?_; rw [HL.out]; rintro e w1 ⟨rfl, hb⟩; have HB := Lib.hid hb; clear hb)
      | (go_at_call 7; refine (lookup_any _ _ (HW.out.below HB.out).cells).mono ?_; rintro e w' ⟨rfl, rfl⟩)
      | (go_at_call 10; refine (isKw_any _ _).mono ?_; rintro e w' ⟨rfl, rfl⟩)
      | (go_at_call 11; refine (low_any _ _ hl2 (by omega) HA.out).mono ?_; rintro e w' ⟨rfl, rfl⟩))
    go_ret
    exact ⟨rfl, HB.out⟩
  · have hk' : isKw n = false := by simpa using hk
    rw [hk'] at hrt
    by_cases hr : lookup L = n
    · have t1 : (lookup L == n) = true := by simpa using hr
      have t2 : (n != 4) = false := by
        have : n = 4 := by simpa [hr] using hrt.symm
        simp [this]
      clear hr hrt hlow hk
      go_enter Tryd.func4, Tryd.ntmps4
      go_wp2_with (first
        | (go_at_call 9; refine (tok_string _ _ hn0 hn1 HW.out).mono ?_; rw [HL.out]; rintro e w1 ⟨rfl, hb⟩; have HB := Lib.hid hb; clear hb)
        | (go_at_call 7; refine (lookup_any _ _ (HW.out.below HB.out).cells).mono ?_; rintro e w' ⟨rfl, rfl⟩)
        | (go_at_call 10; refine (isKw_any _ _).mono ?_; rintro e w' ⟨rfl, rfl⟩))
      go_ret
      exact ⟨rfl, HB.out⟩
    · have t1 : (lookup L == n) = false := by simpa using hr
      clear hr hrt hlow hk
      go_enter Tryd.func4, Tryd.ntmps4
      go_wp2_with (first
        | (go_at_call 9; refine (tok_string _ _ hn0 hn1 HW.out).mono ?_; rw [HL.out]; rintro e w1 ⟨rfl, hb⟩; have HB := Lib.hid hb; clear hb)
        | (go_at_call 7; refine (lookup_any _ _ (HW.out.below HB.out).cells).mono ?_; rintro e w' ⟨rfl, rfl⟩)
        | (go_at_call 10; refine (isKw_any _ _).mono ?_; rintro e w' ⟨rfl, rfl⟩))
      go_ret
      exact ⟨rfl, HB.out⟩

theorem spelled (s : List UInt8) (h : lookup s ≠ 4) : isKw (lookup s) = true ∧ isOpr (lookup s) = false ∧ isLit (lookup s) = false ∧ tokName (lookup s) = s ∧ -9223372036854775808 ≤ lookup s ∧ lookup s ≤ 9223372036854775807 := by
  rcases look_range s 15 60 with h1 | ⟨j, h1, h2, h3, h4⟩
  · exact absurd h1 h
  · have e : lookup s = j := h3
    rw [e]
    have hne : ∀ i : Fin 15, tokNth (60 + i.val) ≠ [] := by decide +kernel
    have hn := hne ⟨j - 60, by omega⟩
    rw [show 60 + (j - 60) = j from by omega] at hn
    have ea : tokAt (j : Int) = tokNth j := by
      unfold tokAt tokNth
      rw [if_pos (by omega)]
      simp
    refine ⟨by simp [isKw]; omega, by simp [isOpr]; omega, by simp [isLit]; omega, ?_, by omega, by omega⟩
    unfold tokName
    rw [ea, if_neg hn]
    exact h4

set_option maxHeartbeats 1000000 in
theorem spelled_law (s : List UInt8) (w : World) (hs : s.length ≤ 9223372036854775807) (hw : TokWorld w) :
    Calls Tryd.prog 5 #[.string ⟨s.toArray⟩] w fun e w' => e = .returned (.bool true) ∧ Below w.heap.size w w' := by
  have HW := Lib.hid hw
  clear hw
  by_cases hl : s.length ≤ 1048576
  · by_cases h4 : lookup s = 4
    · have t1 : (lookup s == 4) = true := by simpa using h4
      clear h4
      go_enter Tryd.func5, Tryd.ntmps5
      go_wp2_with (first
        | (go_at_call 7; refine (lookup_any _ _ HW.out.cells).mono ?_; rintro e w' ⟨rfl, rfl⟩)
        | (go_at_call 12; go_in))
      go_ret
      exact ⟨rfl, Below.refl _ _⟩
    · obtain ⟨k1, k2, k3, k4, k5, k6⟩ := spelled s h4
      have t1 : (lookup s == 4) = false := by simpa using h4
      have K4 := Lib.hid k4
      clear k4 h4
      go_enter Tryd.func5, Tryd.ntmps5
      go_wp2_with (first
        | (go_at_call 7; refine (lookup_any _ _ HW.out.cells).mono ?_; rintro e w' ⟨rfl, rfl⟩)
        | (go_at_call 9; refine (tok_string _ _ k5 k6 HW.out).mono ?_; rw [K4.out]; rintro e w1 ⟨rfl, hb⟩; have HB := Lib.hid hb; clear hb)
        | (go_at_call 10; refine (isKw_any _ _).mono ?_; rintro e w' ⟨rfl, rfl⟩)
        | (go_at_call 13; refine (isOpr_any _ _).mono ?_; rintro e w' ⟨rfl, rfl⟩)
        | (go_at_call 14; refine (isLit_any _ _).mono ?_; rintro e w' ⟨rfl, rfl⟩)
        | (go_at_call 12; go_in))
      go_ret
      exact ⟨by simp, HB.out⟩
  · go_enter Tryd.func5, Tryd.ntmps5
    go_wp2_with (first
      | (go_at_call 12; go_in))
    go_ret
    exact ⟨rfl, Below.refl _ _⟩

end Go.Proofs.YtiimeakjediifaaDoor
