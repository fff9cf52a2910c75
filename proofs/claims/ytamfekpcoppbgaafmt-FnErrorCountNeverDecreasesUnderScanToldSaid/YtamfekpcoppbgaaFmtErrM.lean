/-
  The characters of a source that the scanner reports: their number, and that Scan has counted each that it has read. No program in sight; no conditions.
-/
import Derived.Test.YtamfekpcoppbgaaFmtSnX
import Derived.Test.YtamfekpcoppbgaaFmtLit96
namespace Go.Proofs.YtamfekpcoppbgaaFmt
open Go.RowKit
set_option maxRecDepth 100000
set_option linter.unusedVariables false

/-- the bad characters from byte i on, f steps at most -/
def remF (src : List UInt8) : Nat → Nat → Nat
  | 0, _ => 0
  | f + 1, i => if i < src.length then (if badc src i then 1 else 0) + remF src f (i + (rn src i).2) else 0
def rem (src : List UInt8) (i : Nat) : Nat := remF src (src.length - i) i
variable {src : List UInt8}
theorem remF_fuel : ∀ (f g i : Nat), src.length - i ≤ f → src.length - i ≤ g → remF src f i = remF src g i
  | 0, 0, _, _, _ => rfl
  | 0, g + 1, i, hf, _ => by
    unfold remF
    rw [if_neg (by omega)]
  | f + 1, 0, i, _, hg => by
    unfold remF
    rw [if_neg (by omega)]
  | f + 1, g + 1, i, hf, hg => by
    unfold remF
    by_cases h : i < src.length
    · have w := rn_facts src i h
      rw [if_pos h, if_pos h, remF_fuel f g (i + (rn src i).2) (by omega) (by omega)]
    · rw [if_neg h, if_neg h]
theorem rem_step {i : Nat} (h : i < src.length) : rem src i = (if badc src i then 1 else 0) + rem src (i + (rn src i).2) := by
  have w := rn_facts src i h
  obtain ⟨f, hf⟩ : ∃ f, src.length - i = f + 1 := ⟨src.length - i - 1, by omega⟩
  have e : rem src i = remF src (f + 1) i := by unfold rem; rw [hf]
  rw [e]
  show (if i < src.length then (if badc src i then 1 else 0) + remF src f (i + (rn src i).2) else 0) = _
  rw [if_pos h]
  unfold rem
  rw [remF_fuel f _ (i + (rn src i).2) (by omega) (Nat.le_refl _)]
theorem rem_end {i : Nat} (h : src.length ≤ i) : rem src i = 0 := by
  unfold rem
  rw [show src.length - i = 0 by omega]
  rfl
def RemP (src : List UInt8) (s : St) : Prop := rem src 0 ≤ s.ec + rem src s.rd
theorem remP_nx (s : St) (h : RemP src s) : RemP src (nx src s) := by
  unfold RemP at h ⊢
  unfold nx
  by_cases hr : s.rd < src.length
  · rw [if_pos hr]
    rw [rem_step hr] at h
    show rem src 0 ≤ s.ec + (if badc src s.rd then 1 else 0) + rem src (s.rd + (rn src s.rd).2)
    omega
  · rw [if_neg hr]
    exact h
theorem remP_stb (src : List UInt8) : Stb src (RemP src) := ⟨remP_nx, fun s h => by unfold RemP at h ⊢; show rem src 0 ≤ s.ec + 1 + rem src s.rd; omega, fun _ _ h => h⟩
theorem ScanR.remP {s v : St} {k : Int} {l : List UInt8} {o : Nat} (h : ScanR src s k l o v) (hg : Good src s) (hp : RemP src s) : RemP src v :=
  h.kept (remP_stb src) (fun t u h1 _ h3 => by unfold RemP at h1 ⊢; show rem src 0 ≤ u.ec + rem src t.rd; omega) hg hp
theorem remP_new (m : Int) : RemP src (stNew src m) := by
  have h0 : RemP src (st0 m) := by
    unfold RemP
    show rem src 0 ≤ 0 + rem src 0
    omega
  unfold stNew
  split
  · exact remP_nx _ (remP_nx _ h0)
  · exact remP_nx _ h0
theorem remP_end {s : St} (hg : Good src s) (hc : s.ch = -1) (h : RemP src s) : rem src 0 ≤ s.ec := by
  unfold RemP at h
  rcases hg with ⟨_, _, h3⟩ | ⟨_, h2, _⟩
  · omega
  · rw [rem_end (Nat.le_of_eq h2.symm)] at h
    omega
end Go.Proofs.YtamfekpcoppbgaaFmt
