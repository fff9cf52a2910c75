/-
  The line starts of a source, in plain words, and that the walk with next records exactly them. No program in sight; no conditions.
-/
import Derived.Test.YtamfekpcoppbgaaFmtMk96
namespace Go.Proofs.YtamfekpcoppbgaaFmt
set_option linter.unusedVariables false

/-- the line starts that the first k bytes give -/
def ln (src : List UInt8) : Nat → List Nat
  | 0 => [0]
  | k + 1 => if bt src k = 10 ∧ k + 1 < src.length then ln src k ++ [k + 1] else ln src k
theorem ln_ok (src : List UInt8) : ∀ k, 1 ≤ (ln src k).length ∧ (ln src k).length ≤ k + 1 ∧ lastOf (ln src k) ≤ k ∧ ln src k ≠ []
  | 0 => by simp [ln, lastOf]
  | k + 1 => by
    have h := ln_ok src k
    unfold ln
    split
    · rw [lastOf_snoc]
      simp
      omega
    · refine ⟨h.1, ?_, ?_, h.2.2.2⟩ <;> omega
theorem ln_skip (src : List UInt8) (i : Nat) : ∀ d, (∀ k, i ≤ k → k < i + d → bt src k ≠ 10) → ln src (i + d) = ln src i
  | 0, _ => rfl
  | d + 1, h => by
    show (if bt src (i + d) = 10 ∧ i + d + 1 < src.length then ln src (i + d) ++ [i + d + 1] else ln src (i + d)) = _
    rw [if_neg (fun hh => h (i + d) (by omega) (by omega) hh.1)]
    exact ln_skip src i d (fun k h1 h2 => h k h1 (by omega))
theorem decodeN_cont (n b0 b1 b2 b3 : Nat) : (1 < (Lib.decodeN n b0 b1 b2 b3).2 → 128 ≤ b1) ∧ (2 < (Lib.decodeN n b0 b1 b2 b3).2 → 128 ≤ b2) ∧ (3 < (Lib.decodeN n b0 b1 b2 b3).2 → 128 ≤ b3) := by
  unfold Lib.decodeN
  repeat' split
  all_goals refine ⟨?_, ?_, ?_⟩
  all_goals intro h
  all_goals first | omega | (exfalso; simp at h; done) | (exfalso; simp at h; omega)
theorem rn_cont (src : List UInt8) (i : Nat) (h : i < src.length) (k : Nat) (h1 : i < k) (h2 : k < i + (rn src i).2) : bt src k ≠ 10 := by
  have hc := decodeN_cont (src.length - i) (bt src i) (bt src (i + 1)) (bt src (i + 2)) (bt src (i + 3))
  have hf := (rn_facts src i h).2.1
  unfold rn at h2 hf
  obtain ⟨d, rfl⟩ : ∃ d, k = i + d := ⟨k - i, by omega⟩
  rcases d with _ | _ | _ | _ | d
  · omega
  · have := hc.1 (by omega)
    show bt src (i + 1) ≠ 10
    omega
  · have := hc.2.1 (by omega)
    show bt src (i + 2) ≠ 10
    omega
  · have := hc.2.2 (by omega)
    show bt src (i + 3) ≠ 10
    omega
  · omega

theorem nx_lines (src : List UInt8) (s : St) (hg : Good src s) (hl : s.lines = ln src s.off) : (nx src s).lines = ln src (nx src s).off := by
  rcases hg with ⟨h1, h2, h3⟩ | ⟨h1, h2, h3⟩
  · have f := rn_facts src s.off h1
    have hoff : (nx src s).off = s.rd := by
      unfold nx
      split
      · rfl
      · show src.length = s.rd
        omega
    have hlines : (nx src s).lines = if s.ch = 10 then addLine src.length s.rd s.lines else s.lines := by
      unfold nx
      split
      · rfl
      · have : s.rd = src.length := by omega
        rw [this]
        rfl
    rw [hoff, hlines, hl]
    have hch : s.ch = 10 ↔ bt src s.off = 10 := by
      have := Good.ascii (src := src) (s := s) (Or.inl ⟨h1, h2, h3⟩) 10 (by omega)
      exact ⟨fun h => (this.1 h).2, fun h => this.2 ⟨h1, h⟩⟩
    have hrest : ln src s.rd = ln src (s.off + 1) := by
      have := ln_skip src (s.off + 1) ((rn src s.off).2 - 1) (fun k k1 k2 => rn_cont src s.off h1 k (by omega) (by omega))
      rw [← this]
      congr 1
      omega
    rw [hrest]
    show _ = if bt src s.off = 10 ∧ s.off + 1 < src.length then ln src s.off ++ [s.off + 1] else ln src s.off
    by_cases hb : bt src s.off = 10
    · have hw := f.2.2.2.2.2 (by omega)
      have hrd : s.rd = s.off + 1 := by rw [h2, hw]
      rw [if_pos (hch.2 hb), hrd]
      unfold addLine
      have hlt : lastLt (ln src s.off) (s.off + 1) = true := by
        unfold lastLt
        have := (ln_ok src s.off).2.2.1
        unfold lastOf at this
        simp
        right
        simp at this
        omega
      simp [hlt, hb]
    · rw [if_neg (fun h => hb (hch.1 h)), if_neg (fun h => hb h.1)]
  · unfold nx
    rw [if_neg (by omega)]
    show (if s.ch = 10 then addLine src.length src.length s.lines else s.lines) = ln src src.length
    rw [if_neg (by omega), hl, h1]
theorem stNew_lines (src : List UInt8) : (stNew src 0).lines = ln src (stNew src 0).off := by
  have h0 : (nx src (st0 0)).lines = ln src (nx src (st0 0)).off ∧ Good src (nx src (st0 0)) := by
    refine ⟨?_, nx_good src _ (Nat.zero_le _)⟩
    unfold nx
    split
    · rfl
    · show [0] = ln src src.length
      have : src.length = 0 := by simp [st0] at *; omega
      rw [this]
      rfl
  unfold stNew
  split
  · exact nx_lines src _ h0.2 h0.1
  · exact h0.1

end Go.Proofs.YtamfekpcoppbgaaFmt
