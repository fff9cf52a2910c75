/-
  The law's own walk of a rune literal, as a relation on places, and the scanner's reading beside it. Conditions: as stated.
-/
import Derived.Test.YtkhekeepadeldaaFmtRune
namespace Go.Proofs.YtkhekeepadeldaaFmt
open Go.RowKit
set_option maxRecDepth 100000
set_option linter.unusedVariables false

/-- no NUL, ASCII only -/
def plainA (src : List UInt8) : Prop := ∀ i, i < src.length → 0 < bt src i ∧ bt src i < 128
/-- the walk: place, characters, refused; its end, whether closed, characters, refused -/
inductive RwR (src : List UInt8) : Nat → Nat → Nat → Nat → Bool → Nat → Nat → Prop
  | stop {i c r : Nat} : (i < src.length → bt src i = 10) → RwR src i c r i false c r
  | shut {i c r : Nat} : i < src.length → bt src i = 39 → RwR src i c r (i + 1) true c r
  | plain {i c r e c' r' : Nat} {b : Bool} : i < src.length → bt src i ≠ 10 → bt src i ≠ 39 → bt src i ≠ 92 → RwR src (i + 1) (c + 1) r e b c' r' → RwR src i c r e b c' r'
  | esc {i c r e c' r' : Nat} {b : Bool} : i < src.length → bt src i = 92 → RwR src (escO (chA src) 39 (i + 1)).1 (c + 1) (r + if (escO (chA src) 39 (i + 1)).2 then 0 else 1) e b c' r' → RwR src i c r e b c' r'
theorem RwR.at_stop {src : List UInt8} {i c r e c' r' : Nat} {b : Bool} (h : RwR src i c r e b c' r') (hs : i < src.length → bt src i = 10) : e = i ∧ b = false ∧ c' = c ∧ r' = r := by
  cases h with
  | stop h1 => exact ⟨rfl, rfl, rfl, rfl⟩
  | shut h1 h2 => have := hs h1; omega
  | plain h1 h2 _ _ _ => exact absurd (hs h1) h2
  | esc h1 h2 _ => have := hs h1; omega
theorem RwR.at_shut {src : List UInt8} {i c r e c' r' : Nat} {b : Bool} (h : RwR src i c r e b c' r') (hl : i < src.length) (hs : bt src i = 39) : e = i + 1 ∧ b = true ∧ c' = c ∧ r' = r := by
  cases h with
  | stop h1 => have := h1 hl; omega
  | shut h1 h2 => exact ⟨rfl, rfl, rfl, rfl⟩
  | plain h1 h2 h3 _ _ => exact absurd hs h3
  | esc h1 h2 _ => omega
theorem RwR.at_plain {src : List UInt8} {i c r e c' r' : Nat} {b : Bool} (h : RwR src i c r e b c' r') (hl : i < src.length) (n1 : bt src i ≠ 10) (n2 : bt src i ≠ 39) (n3 : bt src i ≠ 92) : RwR src (i + 1) (c + 1) r e b c' r' := by
  cases h with
  | stop h1 => exact absurd (h1 hl) n1
  | shut h1 h2 => exact absurd h2 n2
  | plain h1 h2 h3 _ h5 => exact h5
  | esc h1 h2 _ => exact absurd h2 n3
theorem RwR.at_esc {src : List UInt8} {i c r e c' r' : Nat} {b : Bool} (h : RwR src i c r e b c' r') (hl : i < src.length) (hs : bt src i = 92) : RwR src (escO (chA src) 39 (i + 1)).1 (c + 1) (r + if (escO (chA src) 39 (i + 1)).2 then 0 else 1) e b c' r' := by
  cases h with
  | stop h1 => have := h1 hl; omega
  | shut h1 h2 => omega
  | plain h1 h2 _ h4 _ => exact absurd hs h4
  | esc h1 h2 h3 => exact h3
theorem RwR.skip {src : List UInt8} {e c' r' : Nat} {b : Bool} : ∀ (d i c r : Nat), RwR src i c r e b c' r' → i + d ≤ src.length → (∀ k, i ≤ k → k < i + d → bt src k ≠ 10 ∧ bt src k ≠ 39 ∧ bt src k ≠ 92) → RwR src (i + d) (c + d) r e b c' r'
  | 0, i, c, r, h, _, _ => h
  | d + 1, i, c, r, h, hl, hk => by
    have h0 := hk i (by omega) (by omega)
    have := RwR.skip d (i + 1) (c + 1) r (h.at_plain (by omega) h0.1 h0.2.1 h0.2.2) (by omega) (fun k k1 k2 => hk k (by omega) (by omega))
    rw [show i + 1 + d = i + (d + 1) by omega, show c + 1 + d = c + (d + 1) by omega] at this
    exact this
theorem nx_ec {src : List UInt8} {s : St} (hP : plainA src) (hg : Good src s) (h0 : 0 ≤ s.ch) : (nx src s).ec = s.ec := by
  have st := step_of hg h0
  have hp := hP s.off st.lt
  obtain ⟨n1, n2, n3, n4, n5⟩ := nx_ascii hg st.lt hp.2
  by_cases hl : s.off + 1 < src.length
  · have hp2 := hP (s.off + 1) hl
    rw [n4 hl hp2.2, if_neg (by omega)]
    rfl
  · exact n5 hl
theorem EscL.ec {src : List UInt8} {b n x : Nat} {s t : St} {r : Option Nat} (hP : plainA src) (hb : b ≤ 16) (h : EscL src b n x s t r) (hg : Good src s) : t.ec = s.ec := by
  induction h with
  | done => rfl
  | bad h => rfl
  | @step n x s t r h hr ih =>
    have hd := dv_low s.ch (by omega)
    obtain ⟨n1, n2, n3⟩ := nx_one hg (by omega) (by omega)
    rw [ih n2, nx_ec hP hg (by omega)]
theorem EscR.ec {src : List UInt8} {q : Int} {s t : St} {ok : Bool} (hP : plainA src) (hq : 0 ≤ q) (h : EscR src q s t ok) (hg : Good src s) : t.ec = s.ec := by
  cases h with
  | simple hs => exact nx_ec hP hg (escSimple_pos hq hs)
  | num hs hN hl =>
    rename_i n b m k r
    have hk := escN_some hN
    cases k
    · exact hl.ec hP (by omega) hg
    · obtain ⟨n1, n2, n3⟩ := nx_one hg hk.1 hk.2.1
      have := hl.ec hP (by omega) n2
      rw [this]
      exact nx_ec hP hg hk.1
  | bad hs hN => rfl
theorem run_rw {src : List UInt8} {s t : St} {n m : Nat} {v v' b : Bool} (h : RunR src s n v t b m v') (hg : Good src s) : ∀ {c r e c' r' : Nat} {b' : Bool}, RwR src s.off c r e b' c' r' →
    t.off = e ∧ (plainA src → c = n → v = decide (r = 0) → b = b' ∧ m = c' ∧ v' = decide (r' = 0) ∧ t.ec + r = s.ec + r') := by
  induction h with
  | @stop s n v hs =>
    intro c r e c' r' b' hr
    have e10 : s.ch = 10 ↔ _ := Good.ascii hg 10 (by omega)
    have hst : s.off < src.length → bt src s.off = 10 := fun hl => by
      rcases hs with h1 | h1
      · exact (e10.1 h1).2
      · rcases hg with ⟨_, _, h3⟩ | ⟨h2, _, _⟩ <;> omega
    obtain ⟨rfl, rfl, rfl, rfl⟩ := hr.at_stop hst
    exact ⟨rfl, fun _ h1 h2 => ⟨rfl, h1.symm, h2, rfl⟩⟩
  | @shut s n v hs =>
    intro c r e c' r' b' hr
    have e39 := (Good.ascii hg 39 (by omega)).1 hs
    obtain ⟨rfl, rfl, rfl, rfl⟩ := hr.at_shut e39.1 e39.2
    have st := step_of hg (by omega)
    exact ⟨st.one (by omega), fun hP h1 h2 => ⟨rfl, h1.symm, h2, by rw [nx_ec hP hg (by omega)]⟩⟩
  | @plain s t n m v v' b h1 h2 h3 h4 hr ih =>
    intro c r e c' r' b' hrw
    have st := step_of hg h2
    have e10 : s.ch = 10 ↔ _ := Good.ascii hg 10 (by omega)
    have e39 : s.ch = 39 ↔ _ := Good.ascii hg 39 (by omega)
    have e92 : s.ch = 92 ↔ _ := Good.ascii hg 92 (by omega)
    have hf := st.far
    obtain ⟨d, hd⟩ : ∃ d, (nx src s).off = s.off + d := ⟨(nx src s).off - s.off, by omega⟩
    have hsk := hrw.skip d s.off c r (by have := st.good.le.2.2; omega) (fun k k1 k2 => by
      by_cases hk : k = s.off
      · subst hk
        exact ⟨fun hh => h1 (e10.2 ⟨st.lt, hh⟩), fun hh => h3 (e39.2 ⟨st.lt, hh⟩), fun hh => h4 (e92.2 ⟨st.lt, hh⟩)⟩
      · have := st.rest k (by omega) (by omega)
        omega)
    rw [← hd] at hsk
    obtain ⟨i1, i2⟩ := ih st.good hsk
    refine ⟨i1, fun hP hc hv => ?_⟩
    have hd1 : d = 1 := by have := st.one (hP s.off st.lt).2; omega
    subst hd1
    obtain ⟨j1, j2, j3, j4⟩ := i2 hP (by omega) hv
    rw [nx_ec hP hg h2] at j4
    exact ⟨j1, j2, j3, j4⟩
  | @esc s u t n m v v' b ok h1 hr hrr ih =>
    intro c r e c' r' b' hrw
    have st := step_of hg (by omega)
    have e92 := (Good.ascii hg 92 (by omega)).1 h1
    have hes := hrw.at_esc e92.1 e92.2
    have ho := st.one (by omega)
    obtain ⟨f1, f2⟩ := hr.fn (by decide) (by decide) st.good
    rw [ho] at f1
    rw [f1] at hes
    have hes' : RwR src u.off (c + 1) (r + if ok then 0 else 1) e b' c' r' := hes
    have hge : Good src (escEnd u ok) := by unfold escEnd; cases ok <;> exact f2
    rw [← escEnd_off u ok] at hes'
    obtain ⟨i1, i2⟩ := ih hge hes'
    refine ⟨i1, fun hP hc hv => ?_⟩
    have hue : (escEnd u ok).ec = s.ec + if ok then 0 else 1 := by
      have e1 := hr.ec hP (by decide) st.good
      rw [nx_ec hP hg (by omega)] at e1
      unfold escEnd
      cases ok
      · show u.ec + 1 = s.ec + 1
        omega
      · exact e1
    obtain ⟨j1, j2, j3, j4⟩ := i2 hP (by omega) (by
      cases ok
      · simp
      · simpa using hv)
    refine ⟨j1, j2, j3, ?_⟩
    rw [hue] at j4
    omega
/-- how many errors are wanted -/
def wantE (closed : Bool) (chars refused : Nat) : Nat := if 0 < refused then refused else if closed = false then 1 else if chars = 1 then 0 else 1
theorem run_law {src : List UInt8} {s t : St} {b b' v : Bool} {n e c' r' : Nat} (h : RunR src s 0 true t b n v) (hg : Good src s) (ho : s.off = 1) (hr : RwR src 1 0 0 e b' c' r') :
    t.off = e ∧ (plainA src → s.ec = 0 → (runEnd t b n v).ec = wantE b' c' r') := by
  rw [← ho] at hr
  obtain ⟨h1, h2⟩ := run_rw h hg hr
  refine ⟨h1, fun hP he => ?_⟩
  obtain ⟨rfl, rfl, rfl, j4⟩ := h2 hP rfl (by simp)
  unfold runEnd runErr wantE
  by_cases hr0 : r' = 0
  · subst hr0
    cases b
    · show t.ec + 1 = 1
      omega
    · by_cases hn : n = 1
      · subst hn
        show t.ec = 0
        omega
      · rw [if_pos (by simp [hn]), if_neg (by omega), if_neg (by simp), if_neg hn]
        show t.ec + 1 = 1
        omega
  · rw [if_neg (by simp [hr0]), if_pos (by omega)]
    omega
end Go.Proofs.YtkhekeepadeldaaFmt
