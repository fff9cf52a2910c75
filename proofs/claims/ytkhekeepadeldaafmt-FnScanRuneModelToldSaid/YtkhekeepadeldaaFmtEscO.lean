/-
  Escapes on bytes: a plain function of the places, which the relation on states meets. No conditions.
-/
import Derived.Test.YtkhekeepadeldaaFmtEscM
namespace Go.Proofs.YtkhekeepadeldaaFmt
open Go.RowKit
set_option maxRecDepth 100000
set_option linter.unusedVariables false

/-- the byte at a place as the escapes see it: ASCII as it is, anything else 1000, -1 at the end -/
def chA (src : List UInt8) (i : Nat) : Int := if i < src.length then (if bt src i < 128 then (bt src i : Int) else 1000) else -1
def escLO (g : Nat → Int) (b : Nat) : Nat → Nat → Nat → Nat × Option Nat
  | 0, x, i => (i, some x)
  | n + 1, x, i => if dv (g i) < b then escLO g b n (x * b + (dv (g i)).toNat) (i + 1) else (i, none)
def escO (g : Nat → Int) (q : Int) (i : Nat) : Nat × Bool :=
  if escSimple q (g i) then (i + 1, true) else
  match escN (g i) with
  | none => (i, false)
  | some (n, b, m, k) => let r := escLO g b n 0 (if k then i + 1 else i); (r.1, escOk m r.2)
theorem good_chA {src : List UInt8} {s : St} (h : Good src s) : (chA src s.off = s.ch ∧ s.ch < 128) ∨ (chA src s.off = 1000 ∧ 128 ≤ s.ch) := by
  unfold chA
  rcases h with ⟨h1, h2, h3⟩ | ⟨h1, h2, h3⟩
  · have f := rn_facts src s.off h1
    rw [if_pos h1]
    by_cases hb : bt src s.off < 128
    · left
      rw [if_pos hb, h3, f.2.2.2.2.2 hb]
      exact ⟨rfl, by show (bt src s.off : Int) < 128; omega⟩
    · right
      rw [if_neg hb]
      exact ⟨rfl, by have := f.2.2.2.2.1 (by omega); omega⟩
  · left
    rw [if_neg (by omega), h3]
    exact ⟨rfl, by decide⟩
theorem esc_cls {q c : Int} (hq2 : q < 128) (h : 128 ≤ c) : escSimple q c = escSimple q 1000 ∧ escN c = escN 1000 ∧ dv c = dv 1000 := by
  refine ⟨?_, ?_, ?_⟩
  · unfold escSimple
    rw [decide_eq_false (by omega), decide_eq_false (by omega)]
  · unfold escN
    rw [if_neg (by omega), if_neg (by omega), if_neg (by omega), if_neg (by omega)]
    rfl
  · unfold dv
    rw [if_neg (by omega), if_neg (by omega), if_neg (by omega)]
    rfl
theorem good_cls {src : List UInt8} {s : St} {q : Int} (hq2 : q < 128) (h : Good src s) : escSimple q s.ch = escSimple q (chA src s.off) ∧ escN s.ch = escN (chA src s.off) ∧ dv s.ch = dv (chA src s.off) := by
  rcases good_chA h with ⟨h1, h2⟩ | ⟨h1, h2⟩
  · rw [h1]
    exact ⟨rfl, rfl, rfl⟩
  · rw [h1]
    exact esc_cls hq2 h2
theorem nx_one {src : List UInt8} {s : St} (h : Good src s) (h0 : 0 ≤ s.ch) (h1 : s.ch < 128) : (nx src s).off = s.off + 1 ∧ Good src (nx src s) ∧ s.off < src.length := by
  have st := step_of h h0
  refine ⟨st.one ?_, st.good, st.lt⟩
  rcases h with ⟨g1, g2, g3⟩ | ⟨g1, g2, g3⟩
  · have f := rn_facts src s.off g1
    rcases Nat.lt_or_ge (bt src s.off) 128 with hb | hb
    · exact hb
    · have := f.2.2.2.2.1 hb
      omega
  · omega
theorem EscL.fn {src : List UInt8} {b n x : Nat} {s t : St} {r : Option Nat} (hb : b ≤ 16) (h : EscL src b n x s t r) (hg : Good src s) : escLO (chA src) b n x s.off = (t.off, r) ∧ Good src t := by
  induction h with
  | done => exact ⟨rfl, hg⟩
  | bad h =>
    refine ⟨?_, hg⟩
    rw [escLO, ← (good_cls (q := 0) (by decide) hg).2.2, if_neg (by omega)]
  | @step n x s t r h hr ih =>
    have hd := dv_low s.ch (by omega)
    obtain ⟨n1, n2, n3⟩ := nx_one hg (by omega) (by omega)
    obtain ⟨i1, i2⟩ := ih n2
    refine ⟨?_, i2⟩
    rw [escLO, ← (good_cls (q := 0) (by decide) hg).2.2, if_pos h, ← n1]
    exact i1
theorem EscR.fn {src : List UInt8} {q : Int} {s t : St} {ok : Bool} (hq : 0 ≤ q) (hq2 : q < 128) (h : EscR src q s t ok) (hg : Good src s) : escO (chA src) q s.off = (t.off, ok) ∧ Good src t := by
  obtain ⟨c1, c2, c3⟩ := good_cls hq2 hg
  cases h with
  | simple hs =>
    have hx := of_decide_eq_true hs
    obtain ⟨n1, n2, n3⟩ := nx_one hg (by omega) (by omega)
    unfold escO
    rw [← c1, if_pos hs, n1]
    exact ⟨rfl, n2⟩
  | num hs hN hl =>
    rename_i n b m k r
    have hk := escN_some hN
    have hg1 : Good src (if k then nx src s else s) ∧ (if k then nx src s else s).off = (if k then s.off + 1 else s.off) := by
      obtain ⟨n1, n2, n3⟩ := nx_one hg hk.1 hk.2.1
      cases k
      · exact ⟨hg, rfl⟩
      · exact ⟨n2, n1⟩
    obtain ⟨f1, f2⟩ := hl.fn (by omega) hg1.1
    rw [hg1.2] at f1
    unfold escO
    rw [← c1, if_neg (by rw [hs]; decide), ← c2, hN]
    exact ⟨by simp only [f1], f2⟩
  | bad hs hN =>
    unfold escO
    rw [← c1, if_neg (by rw [hs]; decide), ← c2, hN]
    exact ⟨rfl, hg⟩
theorem escLO_le (g : Nat → Int) (b : Nat) : ∀ (n x i : Nat), i ≤ (escLO g b n x i).1 ∧ (escLO g b n x i).1 ≤ i + n
  | 0, x, i => ⟨Nat.le_refl _, Nat.le_refl _⟩
  | n + 1, x, i => by
    rw [escLO]
    split
    · have := escLO_le g b n (x * b + (dv (g i)).toNat) (i + 1)
      omega
    · exact ⟨Nat.le_refl _, by show i ≤ i + (n + 1); omega⟩
theorem escO_le (g : Nat → Int) (q : Int) (i : Nat) : i ≤ (escO g q i).1 ∧ (escO g q i).1 ≤ i + 9 := by
  unfold escO
  split
  · exact ⟨by show i ≤ i + 1; omega, by show i + 1 ≤ i + 9; omega⟩
  · split
    · exact ⟨Nat.le_refl _, by show i ≤ i + 9; omega⟩
    · rename_i n b m k hN
      have h1 := escN_some hN
      have h2 := escLO_le g b n 0 (if k then i + 1 else i)
      have h3 : (if k then i + 1 else i) ≤ i + 1 ∧ i ≤ (if k then i + 1 else i) := by cases k <;> simp
      show i ≤ (escLO g b n 0 (if k then i + 1 else i)).1 ∧ (escLO g b n 0 (if k then i + 1 else i)).1 ≤ i + 9
      omega
theorem escLO_local (g g' : Nat → Int) (b : Nat) : ∀ (n x i : Nat), (∀ y, i ≤ y → y ≤ (escLO g b n x i).1 → g y = g' y) → escLO g' b n x i = escLO g b n x i
  | 0, x, i, _ => rfl
  | n + 1, x, i, h => by
    have h0 : g i = g' i := h i (Nat.le_refl _) (escLO_le g b (n + 1) x i).1
    rw [escLO, escLO, ← h0]
    rw [escLO] at h
    split
    · rename_i hd
      rw [if_pos hd] at h
      exact escLO_local g g' b n _ (i + 1) (fun y y1 y2 => h y (by omega) y2)
    · rfl
theorem escO_local (g g' : Nat → Int) (q : Int) (i : Nat) (h : ∀ y, i ≤ y → y ≤ (escO g q i).1 → g y = g' y) : escO g' q i = escO g q i := by
  have h0 : g i = g' i := h i (Nat.le_refl _) (escO_le g q i).1
  unfold escO at h ⊢
  rw [← h0]
  split
  · rfl
  · rename_i hs
    rw [if_neg hs] at h
    rcases hN : escN (g i) with _ | ⟨n, b, m, k⟩
    · rfl
    · rw [hN] at h
      have e := escLO_local g g' b n 0 (if k then i + 1 else i) (fun y y1 y2 => h y (by cases k <;> simp at y1 <;> omega) y2)
      simp only [e]
end Go.Proofs.YtkhekeepadeldaaFmt
