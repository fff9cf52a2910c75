/-
  Escapes as a relation on states. Conditions: as stated.
-/
import Derived.Test.YtamfekpcoppbgaaFmtDigG
namespace Go.Proofs.YtamfekpcoppbgaaFmt
open Go.RowKit
set_option maxRecDepth 100000
set_option linter.unusedVariables false

def escSimple (q c : Int) : Bool := decide (c = 97 ∨ c = 98 ∨ c = 102 ∨ c = 110 ∨ c = 114 ∨ c = 116 ∨ c = 118 ∨ c = 92 ∨ c = q)
/-- how many digits, of which base, up to which number, and whether a letter is skipped first -/
def escN (c : Int) : Option (Nat × Nat × Nat × Bool) :=
  if 48 ≤ c ∧ c ≤ 55 then some (3, 8, 255, false) else if c = 120 then some (2, 16, 255, true) else if c = 117 then some (4, 16, 1114111, true) else if c = 85 then some (8, 16, 1114111, true) else none
/-- the digits: base, how many are left, the number so far -/
inductive EscL (src : List UInt8) (b : Nat) : Nat → Nat → St → St → Option Nat → Prop
  | done {x : Nat} {s : St} : EscL src b 0 x s s (some x)
  | bad {n x : Nat} {s : St} : (b : Int) ≤ dv s.ch → EscL src b (n + 1) x s s none
  | step {n x : Nat} {s t : St} {r : Option Nat} : dv s.ch < b → EscL src b n (x * b + (dv s.ch).toNat) (nx src s) t r → EscL src b (n + 1) x s t r
def escOk (m : Nat) : Option Nat → Bool
  | none => false
  | some x => decide (x ≤ m ∧ ¬ (55296 ≤ x ∧ x < 57344))
/-- where an escape ends (ahead of the error that a refusal counts), and whether it was taken -/
inductive EscR (src : List UInt8) (q : Int) : St → St → Bool → Prop
  | simple {s : St} : escSimple q s.ch = true → EscR src q s (nx src s) true
  | num {s t : St} {n b m : Nat} {k : Bool} {r : Option Nat} : escSimple q s.ch = false → escN s.ch = some (n, b, m, k) → EscL src b n 0 (if k then nx src s else s) t r → EscR src q s t (escOk m r)
  | bad {s : St} : escSimple q s.ch = false → escN s.ch = none → EscR src q s s false
def escEnd (t : St) (ok : Bool) : St := if ok then t else err t
def EscPost (F : Fix) (src : List UInt8) (q : Int) (s : St) (w : World) (e : Ending) (w' : World) : Prop :=
  ∃ t ok, EscR src q s t ok ∧ OnWay src s t ∧ e = .returned (.bool ok) ∧ SC F src (escEnd t ok) w' ∧ Below F.B w w'
theorem escSimple_pos {q c : Int} (hq : 0 ≤ q) (h : escSimple q c = true) : 0 ≤ c := by
  have := of_decide_eq_true h
  omega
theorem escN_some {c : Int} {n b m : Nat} {k : Bool} (h : escN c = some (n, b, m, k)) : 0 ≤ c ∧ c < 128 ∧ n ≤ 8 ∧ 1 ≤ n ∧ (b = 8 ∨ b = 16) := by
  unfold escN at h
  split at h
  · injection h with h
    simp only [Prod.mk.injEq] at h
    omega
  · split at h
    · injection h with h
      simp only [Prod.mk.injEq] at h
      omega
    · split at h
      · injection h with h
        simp only [Prod.mk.injEq] at h
        omega
      · split at h
        · injection h with h
          simp only [Prod.mk.injEq] at h
          omega
        · cases h
theorem escN_kind {c : Int} {n b m : Nat} {k : Bool} (h : escN c = some (n, b, m, k)) : (c = 48 ∧ n = 3 ∧ b = 8 ∧ m = 255 ∧ k = false) ∨ (c = 49 ∧ n = 3 ∧ b = 8 ∧ m = 255 ∧ k = false) ∨ (c = 50 ∧ n = 3 ∧ b = 8 ∧ m = 255 ∧ k = false) ∨ (c = 51 ∧ n = 3 ∧ b = 8 ∧ m = 255 ∧ k = false) ∨ (c = 52 ∧ n = 3 ∧ b = 8 ∧ m = 255 ∧ k = false) ∨ (c = 53 ∧ n = 3 ∧ b = 8 ∧ m = 255 ∧ k = false) ∨ (c = 54 ∧ n = 3 ∧ b = 8 ∧ m = 255 ∧ k = false) ∨ (c = 55 ∧ n = 3 ∧ b = 8 ∧ m = 255 ∧ k = false) ∨ (c = 120 ∧ n = 2 ∧ b = 16 ∧ m = 255 ∧ k = true) ∨ (c = 117 ∧ n = 4 ∧ b = 16 ∧ m = 1114111 ∧ k = true) ∨ (c = 85 ∧ n = 8 ∧ b = 16 ∧ m = 1114111 ∧ k = true) := by
  unfold escN at h
  split at h
  · injection h with h
    simp only [Prod.mk.injEq] at h
    obtain ⟨rfl, rfl, rfl, rfl⟩ := h
    simp
    omega
  · split at h
    · injection h with h
      simp only [Prod.mk.injEq] at h
      obtain ⟨rfl, rfl, rfl, rfl⟩ := h
      simp
      omega
    · split at h
      · injection h with h
        simp only [Prod.mk.injEq] at h
        obtain ⟨rfl, rfl, rfl, rfl⟩ := h
        simp
        omega
      · split at h
        · injection h with h
          simp only [Prod.mk.injEq] at h
          obtain ⟨rfl, rfl, rfl, rfl⟩ := h
          simp
          omega
        · cases h
theorem escN_max {c : Int} {n b m : Nat} {k : Bool} (h : escN c = some (n, b, m, k)) : m ≤ 1114111 := by
  have := escN_kind h
  omega
end Go.Proofs.YtamfekpcoppbgaaFmt
