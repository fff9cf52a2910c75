/-
  Is a token's literal the source's text: the law's own question. No conditions.
-/
import Derived.Test.YtamfekpcoppbgaaFmtMkS96
import Derived.Test.YtamfekpcoppbgaaFmtSnY
namespace Go.Proofs.YtamfekpcoppbgaaFmt
open Go.RowKit
set_option maxRecDepth 100000
set_option linter.unusedVariables false

theorem idx_str (l : List UInt8) (i : Nat) (c : UInt8) (hc : l[i]? = some c) (W : World) : (Instr.index 9 (.string ⟨l.toArray⟩) (.int .i64 (i : Int))).run Tryf.prog W = .ok (.int .u8 (c.toNat : Int)) W := by
  have hi : i < l.length := by
    rcases Nat.lt_or_ge i l.length with h | h
    · exact h
    · rw [List.getElem?_eq_none h] at hc
      cases hc
  rw [run_index_string W 9 ⟨l.toArray⟩ .i64 (i : Int) Tryf.underlying9]
  have hs : (⟨l.toArray⟩ : ByteArray).size = l.length := by simp [ByteArray.size]
  rw [dif_pos ⟨by omega, by rw [hs]; omega⟩]
  have : (⟨l.toArray⟩ : ByteArray)[(i : Int).toNat]'(by rw [hs]; simpa using hi) = c := by
    rw [List.getElem?_eq_getElem hi] at hc
    injection hc with hc
  rw [this]
def isLit (k : Int) (l : List UInt8) : Bool := k == 4 || (k == 5 || (k == 6 || (k == 7 || (k == 8 && (decide (0 < l.length) && decide (l.getD 0 0 = 34))))))
set_option maxHeartbeats 1000000 in
theorem zzlit_any (k : Int) (l : List UInt8) (w : World) :
    Calls Tryf.prog 12 #[.int .i64 k, .string ⟨l.toArray⟩] w fun e w' => e = .returned (.bool (isLit k l)) ∧ w = w' := by
  by_cases h4 : k = 4
  · subst h4
    go_enter Tryf.func12, Tryf.ntmps12
    go_wp2
    go_ret
    exact ⟨rfl, rfl⟩
  have t4 : (k == 4) = false := by simpa using h4
  by_cases h5 : k = 5
  · subst h5
    go_enter Tryf.func12, Tryf.ntmps12
    go_wp2
    go_ret
    exact ⟨rfl, rfl⟩
  have t5 : (k == 5) = false := by simpa using h5
  by_cases h6 : k = 6
  · subst h6
    go_enter Tryf.func12, Tryf.ntmps12
    go_wp2
    go_ret
    exact ⟨rfl, rfl⟩
  have t6 : (k == 6) = false := by simpa using h6
  by_cases h7 : k = 7
  · subst h7
    go_enter Tryf.func12, Tryf.ntmps12
    go_wp2
    go_ret
    exact ⟨rfl, rfl⟩
  have t7 : (k == 7) = false := by simpa using h7
  by_cases h8 : k = 8
  rotate_left
  · have t8 : (k == 8) = false := by simpa using h8
    have e : isLit k l = false := by simp [isLit, t4, t5, t6, t7, t8]
    rw [e]
    clear e
    go_enter Tryf.func12, Tryf.ntmps12
    go_wp2
    go_ret
    exact ⟨rfl, rfl⟩
  subst h8
  clear t4 t5 t6 t7 h4 h5 h6 h7
  cases l with
  | nil =>
    go_enter Tryf.func12, Tryf.ntmps12
    go_wp2
    go_ret
    exact ⟨rfl, rfl⟩
  | cons c r =>
    have hx : ∀ W : World, (Instr.index 9 (.string ⟨(c :: r).toArray⟩) (.int .i64 0)).run Tryf.prog W = .ok (.int .u8 (c.toNat : Int)) W := fun W => idx_str (c :: r) 0 c rfl W
    have hz : ((⟨(c :: r).toArray⟩ : ByteArray).size : Int) = ((r.length + 1 : Nat) : Int) := by simp [ByteArray.size]
    have tl : decide (((r.length + 1 : Nat) : Int) > 0) = true := decide_eq_true (by omega)
    by_cases hc : c.toNat = 34
    · have e : isLit 8 (c :: r) = true := by
        have : c = 34 := UInt8.toNat_inj.1 (by rw [hc]; rfl)
        simp [isLit, this]
      have t34 : ((c.toNat : Int) == 34) = true := by simp [hc]
      rw [e]
      clear e
      go_enter Tryf.func12, Tryf.ntmps12
      go_wp2
      go_ret
      exact ⟨by first | rfl | simp [t34, tl], rfl⟩
    · have e : isLit 8 (c :: r) = false := by
        have : ¬ c = 34 := fun h => hc (by rw [h]; rfl)
        simp [isLit, this]
      have t34 : ((c.toNat : Int) == 34) = false := by simp; omega
      rw [e]
      clear e
      go_enter Tryf.func12, Tryf.ntmps12
      go_wp2
      go_ret
      exact ⟨by first | rfl | simp [t34, tl], rfl⟩
theorem isLit_ok {src : List UInt8} {k : Int} {l : List UInt8} {o : Nat} (h : LitOk src k l o) (hb : isLit k l = true) : o + l.length ≤ src.length ∧ l = cut src o (o + l.length) := by
  refine h ?_
  unfold isLit at hb
  simp only [Bool.or_eq_true, Bool.and_eq_true, beq_iff_eq, decide_eq_true_eq] at hb
  rcases hb with h | h | h | h | ⟨h, _, h2⟩
  · exact Or.inl ⟨by omega, by omega⟩
  · exact Or.inl ⟨by omega, by omega⟩
  · exact Or.inl ⟨by omega, by omega⟩
  · exact Or.inl ⟨by omega, by omega⟩
  · exact Or.inr ⟨h, h2⟩
end Go.Proofs.YtamfekpcoppbgaaFmt
