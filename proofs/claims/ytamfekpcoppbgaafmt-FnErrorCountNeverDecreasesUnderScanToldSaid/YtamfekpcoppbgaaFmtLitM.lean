/-
  The scanner's error as a step of the model; raw strings as a relation on states. Conditions: as stated.
-/
import Derived.Test.YtamfekpcoppbgaaFmtCommentMG
namespace Go.Proofs.YtamfekpcoppbgaaFmt
open Go.RowKit
set_option maxRecDepth 100000
set_option linter.unusedVariables false

def err (s : St) : St := { s with ec := s.ec + 1 }
theorem err_good {src : List UInt8} {s : St} (h : Good src s) : Good src (err s) := h
def ErrPost (F : Fix) (src : List UInt8) (s : St) (w : World) (e : Ending) (w' : World) : Prop := e = .returned (.tuple #[]) ∧ SC F src s w' ∧ Below F.B w w'
theorem err_any (F : Fix) (src : List UInt8) (s : St) (o : Int) (msg : ByteArray) (w : World) (h : SC F src s w) (hec : s.ec ≤ 4611686018427387904) :
    Calls Tryf.prog 47 #[.pointer (some ⟨F.gS, 0, none⟩), .int .i64 o, .string msg] w (ErrPost F src (err s) w) := by
  refine (error_any F.gS _ s.ec w o msg h.blkS rfl rfl hec).mono ?_
  rintro e w' ⟨rfl, rfl⟩
  exact ⟨rfl, h.setEc (s.ec + 1), h.put_below 8 _⟩

/-- reading a raw string's body: the state where it ends, and whether a backtick closed it -/
inductive RawR (src : List UInt8) : St → St → Bool → Prop
  | eof {s : St} : s.ch < 0 → RawR src s s false
  | shut {s : St} : s.ch = 96 → RawR src s (nx src s) true
  | step {s t : St} {b : Bool} : 0 ≤ s.ch → s.ch ≠ 96 → RawR src (nx src s) t b → RawR src s t b
/-- the state behind: one error more if it was not closed -/
def rawEnd (t : St) (b : Bool) : St := if b then t else err t

/-- a state on the way from s, every step over a rune -/
structure OnWay (src : List UInt8) (s t : St) : Prop where
  good : Good src t
  lo : s.off ≤ t.off
  ec : t.ec + s.off ≤ s.ec + t.off
theorem OnWay.refl {src : List UInt8} {s : St} (h : Good src s) : OnWay src s s := ⟨h, Nat.le_refl _, Nat.le_refl _⟩
theorem OnWay.next {src : List UInt8} {s t : St} (h : OnWay src s t) (hc : 0 ≤ t.ch) : OnWay src s (nx src t) := by
  have st := step_of h.good hc
  have := st.ec
  have := st.far
  exact ⟨st.good, by have := h.lo; omega, by have := h.ec; omega⟩

def RawPost (F : Fix) (src : List UInt8) (s : St) (w : World) (e : Ending) (w' : World) : Prop :=
  ∃ t b, RawR src s t b ∧ OnWay src s t ∧ e = .returned (.string ⟨(filt (cut src (s.off - 1) t.off)).toArray⟩) ∧ SC F src (rawEnd t b) w' ∧ Below F.B w w'
end Go.Proofs.YtamfekpcoppbgaaFmt
