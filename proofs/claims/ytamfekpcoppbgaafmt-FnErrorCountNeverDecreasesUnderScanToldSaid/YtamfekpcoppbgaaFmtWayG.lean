/-
  On the way through a literal with escapes. No conditions.
-/
import Derived.Test.YtamfekpcoppbgaaFmtEscMG
namespace Go.Proofs.YtamfekpcoppbgaaFmt
open Go.RowKit
set_option maxRecDepth 100000
set_option linter.unusedVariables false

/-- on the way, an escape's error counted besides -/
structure OnWay2 (src : List UInt8) (s t : St) : Prop where
  good : Good src t
  lo : s.off ≤ t.off
  ec : t.ec + 2 * s.off ≤ s.ec + 2 * t.off
theorem OnWay2.refl {src : List UInt8} {s : St} (h : Good src s) : OnWay2 src s s := ⟨h, Nat.le_refl _, Nat.le_refl _⟩
theorem OnWay2.next {src : List UInt8} {s t : St} (h : OnWay2 src s t) (hc : 0 ≤ t.ch) : OnWay2 src s (nx src t) := by
  have st := step_of h.good hc
  have := st.ec
  have := st.far
  exact ⟨st.good, by have := h.lo; omega, by have := h.ec; omega⟩
theorem OnWay2.esc {src : List UInt8} {s t u : St} {ok : Bool} (h : OnWay2 src s t) (hc : 0 ≤ t.ch) (hu : OnWay src (nx src t) u) : OnWay2 src s (escEnd u ok) := by
  have st := step_of h.good hc
  have h1 := st.ec
  have h2 := st.far
  have h3 := hu.lo
  have h4 := hu.ec
  have h5 := h.ec
  have h6 := h.lo
  have h7 : (escEnd u ok).off = u.off ∧ (escEnd u ok).ec ≤ u.ec + 1 ∧ Good src (escEnd u ok) := by
    unfold escEnd
    cases ok
    · exact ⟨rfl, Nat.le_refl _, hu.good⟩
    · exact ⟨rfl, by show u.ec ≤ u.ec + 1; omega, hu.good⟩
  exact ⟨h7.2.2, by omega, by omega⟩
theorem escEnd_off (u : St) (ok : Bool) : (escEnd u ok).off = u.off := by unfold escEnd; cases ok <;> rfl
end Go.Proofs.YtamfekpcoppbgaaFmt
