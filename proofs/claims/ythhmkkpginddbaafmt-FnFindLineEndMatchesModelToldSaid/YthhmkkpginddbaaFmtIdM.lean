/-
  Identifier bytes: what isDigit and the law's own tests compute at ASCII, the run of identifier bytes, and next over ASCII. Conditions: as each states.
-/
import Derived.Test.YthhmkkpginddbaaFmtNewScan
import Derived.Test.YthhmkkpginddbaaFmtLetter
namespace Go.Proofs.YthhmkkpginddbaaFmt
open Go.RowKit
set_option maxRecDepth 100000
set_option linter.unusedVariables false

def asciiDigit (c : Int) : Bool := decide (48 ≤ c ∧ c ≤ 57)
def idp (c : Int) : Bool := asciiLetter c || asciiDigit c

set_option maxHeartbeats 1000000 in
theorem isDigit_ascii (c : Int) (w : World) (h : c < 128) :
    Calls Tryf.prog 41 #[.int .i32 c] w fun e w' => e = .returned (.bool (asciiDigit c)) ∧ w = w' := by
  have h128 : ¬ 128 ≤ c := by omega
  by_cases h1 : 48 ≤ c <;> by_cases h2 : c ≤ 57 <;> try (exfalso; omega)
  all_goals
    go_enter Tryf.func41, Tryf.ntmps41
    go_wp2_with fail
    go_ret
    refine ⟨?_, rfl⟩
    first
      | (have e : asciiDigit c = true := by simp [asciiDigit]; omega
         rw [e]; rfl)
      | (have e : asciiDigit c = false := by simp [asciiDigit]; omega
         rw [e]; rfl)

set_option maxHeartbeats 1000000 in
theorem idStart_any (c : Int) (w : World) :
    Calls Tryf.prog 8 #[.int .u8 c] w fun e w' => e = .returned (.bool (asciiLetter c)) ∧ w = w' := by
  by_cases h1 : 97 ≤ c <;> by_cases h2 : c ≤ 122 <;> by_cases h3 : 65 ≤ c <;> by_cases h4 : c ≤ 90 <;> by_cases h5 : c = 95 <;> try (exfalso; omega)
  all_goals
    first
      | (have t5 : (c == 95) = true := by simpa using h5)
      | (have t5 : (c == 95) = false := by simpa using h5)
    have H5 := Lib.hid h5
    clear h5
    go_enter Tryf.func8, Tryf.ntmps8
    go_wp2_with fail
    go_ret
    refine ⟨?_, rfl⟩
    have h5 := H5.out
    first
      | (have e : asciiLetter c = true := by simp [asciiLetter]; omega
         rw [e]; rfl)
      | (have e : asciiLetter c = false := by simp [asciiLetter]; omega
         rw [e]; rfl)

set_option maxHeartbeats 1000000 in
theorem idPart_any (c : Int) (w : World) :
    Calls Tryf.prog 27 #[.int .u8 c] w fun e w' => e = .returned (.bool (idp c)) ∧ w = w' := by
  rcases hl : asciiLetter c with _ | _
  · by_cases h1 : 48 ≤ c <;> by_cases h2 : c ≤ 57 <;> try (exfalso; omega)
    all_goals
      have HL := Lib.hid hl
      clear hl
      go_enter Tryf.func27, Tryf.ntmps27
      go_wp2_with (go_at_call 8; refine (idStart_any _ _).mono ?_; rintro e w' ⟨rfl, rfl⟩; rw [HL.out])
      go_ret
      refine ⟨?_, rfl⟩
      first
        | (have e : idp c = true := by simp [idp, asciiDigit]; omega
           rw [e]; rfl)
        | (have e : idp c = false := by simp [idp, asciiDigit, HL.out]; omega
           rw [e]; rfl)
        | (have e : idp c = false := by simp [idp, asciiDigit, HL.out]; omega
           have t2 : decide (c ≤ 57) = false := by simp; omega
           rw [e, ← t2]; rfl)
  · have HL := Lib.hid hl
    clear hl
    go_enter Tryf.func27, Tryf.ntmps27
    go_wp2_with (go_at_call 8; refine (idStart_any _ _).mono ?_; rintro e w' ⟨rfl, rfl⟩; rw [HL.out])
    go_ret
    refine ⟨?_, rfl⟩
    have e : idp c = true := by simp [idp, HL.out]
    rw [e]
    rfl

theorem idp_ascii {c : Int} (h : idp c = true) : 48 ≤ c ∧ c < 128 := by
  simp [idp, asciiLetter, asciiDigit] at h
  omega

/-- k is where the run of identifier bytes from j ends -/
structure RunEnd (src : List UInt8) (j k : Nat) : Prop where
  le : j ≤ k
  len : k ≤ src.length
  all : ∀ i, j ≤ i → i < k → idp (bt src i) = true
  stop : k < src.length → idp (bt src k) = false

set_option maxHeartbeats 1000000 in
theorem idEnd_any (oA : Option Addr) (cap : Nat) (src : List UInt8) (j : Nat) (w : World) (hsrc : SrcAt w w.heap.size oA src) (hj : j ≤ src.length) (hn : src.length ≤ 1048576) :
    Calls Tryf.prog 9 #[.slice oA src.length cap, .int .i64 j] w fun e w' => ∃ k : Nat, RunEnd src j k ∧ e = .returned (.int .i64 k) ∧ w = w' := by
  have HR := Lib.hid hsrc
  clear hsrc
  go_enter Tryf.func9, Tryf.ntmps9
  go_wp2
  go_loopw [5] (fun v wr => ∃ k : Nat, j ≤ k ∧ k ≤ src.length ∧ (∀ i, j ≤ i → i < k → idp (bt src i) = true) ∧ v = .int .i64 k ∧ w = wr) (fun v _ => src.length - (intOf v).toNat)
  case atStart => exact ⟨j, Nat.le_refl _, hj, fun i h1 h2 => by omega, rfl, rfl⟩
  case round =>
    obtain ⟨k, h1, h2, hall, rfl, rfl⟩ := hrel
    have HA := Lib.hid hall
    clear hall
    by_cases hlt : k < src.length
    · obtain ⟨b, o, eo, hb, hc⟩ := HR.out.at_ (by omega)
      have hcell : w.cell? ⟨b, o + k, none⟩ = some (.int .u8 (bt src k : Int)) := by
        rw [hc k hlt]
        simp [bt, hlt, List.getD]
      have tl : decide ((k : Int) < (src.length : Int)) = true := by simpa using hlt
      subst eo
      clear hc
      rcases hp : idp (bt src k) with _ | _
      · have HP := Lib.hid hp
        clear hp
        go_wp2_with (go_at_call 27; refine (idPart_any _ _).mono ?_; rintro e w' ⟨rfl, rfl⟩; rw [HP.out])
        go_ret
        exact ⟨k, ⟨h1, h2, HA.out, fun _ => HP.out⟩, rfl, rfl⟩
      · have HP := Lib.hid hp
        clear hp
        go_wp2_with (go_at_call 27; refine (idPart_any _ _).mono ?_; rintro e w' ⟨rfl, rfl⟩; rw [HP.out])
        go_roundw
        case rel =>
          refine ⟨k + 1, by omega, by omega, fun i i1 i2 => ?_, by go_num, by simp⟩
          by_cases hi : i = k
          · rw [hi]
            exact HP.out
          · exact HA.out i i1 (by omega)
        case measure => simp [intOf]; omega
    · have tl : decide ((k : Int) < (src.length : Int)) = false := by simpa using hlt
      go_wp2
      go_ret
      exact ⟨k, ⟨h1, h2, HA.out, fun h => absurd h hlt⟩, rfl, rfl⟩

/-- next over an ASCII byte -/
theorem nx_ascii {src : List UInt8} {s : St} (hg : Good src s) (hlt : s.off < src.length) (ha : bt src s.off < 128) :
    s.ch = (bt src s.off : Int) ∧ (nx src s).off = s.off + 1 ∧ Good src (nx src s) ∧ (s.off + 1 < src.length → bt src (s.off + 1) < 128 → (nx src s).ec = s.ec + (if bt src (s.off + 1) = 0 then 1 else 0)) ∧ (¬ s.off + 1 < src.length → (nx src s).ec = s.ec) := by
  rcases hg with ⟨h1, h2, h3⟩ | ⟨h1, h2, h3⟩
  · have hw := (rn_facts src s.off h1).2.2.2.2.2 ha
    rw [hw] at h2 h3
    have hr : s.rd = s.off + 1 := h2
    refine ⟨h3, ?_, nx_good src s (by omega), fun hl hb => ?_, fun hl => ?_⟩
    · unfold nx
      split
      · exact hr
      · show src.length = s.off + 1
        omega
    · have hw2 := (rn_facts src (s.off + 1) hl).2.2.2.2.2 hb
      unfold nx
      rw [if_pos (by omega)]
      show s.ec + (if badc src s.rd = true then 1 else 0) = _
      rw [hr]
      unfold badc
      rw [hw2]
      by_cases hz : bt src (s.off + 1) = 0
      · simp [hz]
      · have : ¬ (bt src (s.off + 1) = 65533) := by omega
        have : ¬ (bt src (s.off + 1) = 65279) := by omega
        simp [*]
    · unfold nx
      rw [if_neg (by omega)]
      rfl
  · omega
theorem stNew_ascii (src : List UInt8) (hn : 0 < src.length) (ha : bt src 0 < 128) : (stNew src 0).off = 0 ∧ (stNew src 0).ec ≤ 1 := by
  have hw := (rn_facts src 0 hn).2.2.2.2.2 ha
  have hr : (st0 0).rd < src.length := hn
  have e : nx src (st0 0) = { nl src.length (st0 0).rd (st0 0) with off := (st0 0).rd, rd := (st0 0).rd + (rn src (st0 0).rd).2, ch := ((rn src (st0 0).rd).1 : Int), ec := (st0 0).ec + (if badc src (st0 0).rd then 1 else 0) } := by
    unfold nx
    rw [if_pos hr]
  have hch : (nx src (st0 0)).ch = (bt src 0 : Int) := by
    rw [e]
    show ((rn src 0).1 : Int) = _
    rw [hw]
  have es : stNew src 0 = nx src (st0 0) := by
    unfold stNew
    rw [if_neg (by rw [hch]; omega)]
  rw [es, e]
  refine ⟨rfl, ?_⟩
  show 0 + (if badc src (st0 0).rd = true then 1 else 0) ≤ 1
  split <;> omega

end Go.Proofs.YthhmkkpginddbaaFmt
