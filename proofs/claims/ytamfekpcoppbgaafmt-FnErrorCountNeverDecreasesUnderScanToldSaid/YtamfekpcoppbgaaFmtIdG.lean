/-
  Identifier bytes: what isDigit and the law's own tests compute at ASCII, the run of identifier bytes, and next over ASCII. Conditions: as each states.
-/
import Derived.Test.YtamfekpcoppbgaaFmtNewScan
import Derived.Test.YtamfekpcoppbgaaFmtLetter
namespace Go.Proofs.YtamfekpcoppbgaaFmt
open Go.RowKit
set_option maxRecDepth 100000
set_option linter.unusedVariables false

def asciiDigit (c : Int) : Bool := decide (48 ≤ c ∧ c ≤ 57)
def idp (c : Int) : Bool := asciiLetter c || asciiDigit c

set_option maxHeartbeats 1000000 in
theorem isDigit_ascii (c : Int) (w : World) (h : c < 128) :
    Calls Tryf.prog 52 #[.int .i32 c] w fun e w' => e = .returned (.bool (asciiDigit c)) ∧ w = w' := by
  have h128 : ¬ 128 ≤ c := by omega
  by_cases h1 : 48 ≤ c <;> by_cases h2 : c ≤ 57 <;> try (exfalso; omega)
  all_goals
    go_enter Tryf.func52, Tryf.ntmps52
    go_wp2_with fail
    go_ret
    refine ⟨?_, rfl⟩
    first
      | (have e : asciiDigit c = true := by simp [asciiDigit]; omega
         rw [e]; rfl)
      | (have e : asciiDigit c = false := by simp [asciiDigit]; omega
         rw [e]; rfl)

theorem idp_ascii {c : Int} (h : idp c = true) : 48 ≤ c ∧ c < 128 := by
  simp [idp, asciiLetter, asciiDigit] at h
  omega

/-- k is where the run of identifier bytes from j ends -/
structure RunEnd (src : List UInt8) (j k : Nat) : Prop where
  le : j ≤ k
  len : k ≤ src.length
  all : ∀ i, j ≤ i → i < k → idp (bt src i) = true
  stop : k < src.length → idp (bt src k) = false

theorem nx_ascii {src : List UInt8} {s : St} (hg : Good src s) (hlt : s.off < src.length) (ha : bt src s.off < 128) :
    s.ch = (bt src s.off : Int) ∧ (nx src s).off = s.off + 1 ∧ Good src (nx src s) ∧ (s.off + 1 < src.length → bt src (s.off + 1) < 128 → (nx src s).ec = s.ec + (if bt src (s.off + 1) = 0 then 1 else 0)) ∧ (¬ s.off + 1 < src.length → (nx src s).ec = s.ec) := by
  rcases hg with ⟨h1, h2, h3⟩ | ⟨h1, h2, h3⟩
  · have hw := (rn_facts src s.off h1).2.2.2.2.2 ha
    rw [hw] at h2 h3
    have hr : s.rd = s.off + 1 := h2
    refine ⟨h3, ?_, nx_good src s (by omega), fun hl hb => ?_, fun hl => ?_⟩
    · unfold nx
      split
      · exact hr
      · show src.length = s.off + 1
        omega
    · have hw2 := (rn_facts src (s.off + 1) hl).2.2.2.2.2 hb
      unfold nx
      rw [if_pos (by omega)]
      show s.ec + (if badc src s.rd = true then 1 else 0) = _
      rw [hr]
      unfold badc
      rw [hw2]
      by_cases hz : bt src (s.off + 1) = 0
      · simp [hz]
      · have : ¬ (bt src (s.off + 1) = 65533) := by omega
        have : ¬ (bt src (s.off + 1) = 65279) := by omega
        simp [*]
    · unfold nx
      rw [if_neg (by omega)]
      rfl
  · omega
theorem stNew_ascii (src : List UInt8) (hn : 0 < src.length) (ha : bt src 0 < 128) : (stNew src 0).off = 0 ∧ (stNew src 0).ec ≤ 1 := by
  have hw := (rn_facts src 0 hn).2.2.2.2.2 ha
  have hr : (st0 0).rd < src.length := hn
  have e : nx src (st0 0) = { nl src.length (st0 0).rd (st0 0) with off := (st0 0).rd, rd := (st0 0).rd + (rn src (st0 0).rd).2, ch := ((rn src (st0 0).rd).1 : Int), ec := (st0 0).ec + (if badc src (st0 0).rd then 1 else 0) } := by
    unfold nx
    rw [if_pos hr]
  have hch : (nx src (st0 0)).ch = (bt src 0 : Int) := by
    rw [e]
    show ((rn src 0).1 : Int) = _
    rw [hw]
  have es : stNew src 0 = nx src (st0 0) := by
    unfold stNew
    rw [if_neg (by rw [hch]; omega)]
  rw [es, e]
  refine ⟨rfl, ?_⟩
  show 0 + (if badc src (st0 0).rd = true then 1 else 0) ≤ 1
  split <;> omega

end Go.Proofs.YtamfekpcoppbgaaFmt
