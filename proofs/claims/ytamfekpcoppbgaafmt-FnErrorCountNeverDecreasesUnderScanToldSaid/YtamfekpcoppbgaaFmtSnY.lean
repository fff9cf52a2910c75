/-
  Scan in plain words: how many errors one call counts at most. No program in sight; no conditions.
-/
import Derived.Test.YtamfekpcoppbgaaFmtSnX
namespace Go.Proofs.YtamfekpcoppbgaaFmt
open Go.RowKit
set_option maxRecDepth 100000
set_option linter.unusedVariables false

variable {src : List UInt8}
theorem IdR.way {s t : St} (h : IdR src s t) : Good src s → OnWay src s t := by
  induction h with
  | stop => exact OnWay.refl
  | @step s t h1 h2 ih => exact fun hg => (OnWay.one hg (by have := identC_pos h1; omega)).thru (ih (OnWay.one hg (by have := identC_pos h1; omega)).good)
theorem DigR.way {b : Int} (hb : b ≤ 16) {s t : St} (h : DigR src b s t) : Good src s → OnWay src s t := by
  induction h with
  | stop => exact OnWay.refl
  | @step s t h1 h2 ih => exact fun hg => (OnWay.one hg (by have := dg_pos hb h1; omega)).thru (ih (OnWay.one hg (by have := dg_pos hb h1; omega)).good)
theorem EscL.way {b n x : Nat} {s t : St} {r : Option Nat} (hb : b ≤ 16) (h : EscL src b n x s t r) : Good src s → OnWay src s t := by
  induction h with
  | done => exact OnWay.refl
  | bad => exact OnWay.refl
  | @step n x s t r h1 h2 ih =>
    intro hg
    have hp : 0 ≤ s.ch := by
      have := dv_low s.ch (by omega)
      omega
    exact (OnWay.one hg hp).thru (ih (OnWay.one hg hp).good)
theorem EscR.way {q : Int} {s t : St} {ok : Bool} (hq : 0 ≤ q) (h : EscR src q s t ok) (hg : Good src s) : OnWay src s t := by
  cases h with
  | simple h1 => exact OnWay.one hg (escSimple_pos hq h1)
  | @num _ n b m k r _ h2 hl =>
    have hs := escN_some h2
    cases k
    · exact hl.way (by omega) hg
    · exact (OnWay.one hg hs.1).thru (hl.way (by omega) (OnWay.one hg hs.1).good)
  | bad => exact OnWay.refl hg
theorem escEnd_ec (t : St) (ok : Bool) : (escEnd t ok).off = t.off ∧ (escEnd t ok).ec ≤ t.ec + 1 ∧ (Good src t → Good src (escEnd t ok)) := by
  unfold escEnd
  cases ok
  · exact ⟨rfl, Nat.le_refl _, fun h => h⟩
  · exact ⟨rfl, Nat.le_succ _, fun h => h⟩
theorem esc_way {q : Int} {s u : St} {ok : Bool} (hq : 0 ≤ q) (hg : Good src s) (hc : 0 ≤ s.ch) (h : EscR src q (nx src s) u ok) : OnWay2 src s (escEnd u ok) := by
  have st := step_of hg hc
  have w := h.way hq st.good
  have e := escEnd_ec (src := src) u ok
  have := st.far; have := st.ec; have := w.lo; have := w.ec
  exact ⟨e.2.2 w.good, by rw [e.1]; omega, by rw [e.1]; omega⟩
theorem StrR.way {s t : St} {b : Bool} (h : StrR src s t b) : Good src s → OnWay2 src s t := by
  induction h with
  | stop => exact OnWay2.refl
  | @shut s h => exact fun hg => (OnWay.one hg (by omega)).two
  | @plain s t b _ h0 _ _ _ ih => exact fun hg => (OnWay.one hg h0).two.trans (ih (OnWay.one hg h0).good)
  | @esc s u t ok b h9 he _ ih => exact fun hg => (esc_way (by decide) hg (by omega) he).trans (ih (esc_way (by decide) hg (by omega) he).good)
theorem RunR.way {s t : St} {n m : Nat} {v v' b : Bool} (h : RunR src s n v t b m v') : Good src s → OnWay2 src s t := by
  induction h with
  | stop => exact OnWay2.refl
  | @shut s _ _ h => exact fun hg => (OnWay.one hg (by omega)).two
  | @plain s t n m v v' b _ h0 _ _ _ ih => exact fun hg => (OnWay.one hg h0).two.trans (ih (OnWay.one hg h0).good)
  | @esc s u t n m v v' b ok h9 he _ ih => exact fun hg => (esc_way (by decide) hg (by omega) he).trans (ih (esc_way (by decide) hg (by omega) he).good)
theorem RawR.way {s t : St} {b : Bool} (h : RawR src s t b) : Good src s → OnWay2 src s t := by
  induction h with
  | eof => exact OnWay2.refl
  | @shut s h => exact fun hg => (OnWay.one hg (by omega)).two
  | @step s t b h0 _ _ ih => exact fun hg => (OnWay.one hg h0).two.trans (ih (OnWay.one hg h0).good)
theorem numB_le (src : List UInt8) (s : St) : (numB src s : Int) ≤ 16 := by
  rcases numB_cases src s with h | h | h | h <;> omega
theorem expE_ec (s t : St) : (expE s t).off = t.off ∧ (expE s t).ec ≤ t.ec + 1 ∧ (Good src t → Good src (expE s t)) := by
  unfold expE
  split
  · exact ⟨rfl, Nat.le_refl _, fun h => h⟩
  · exact ⟨rfl, Nat.le_succ _, fun h => h⟩
theorem ExpR.way {s t : St} {q : Bool} (h : ExpR src s q t) (hg : Good src s) : OnWay2 src s t := by
  cases h with
  | no => exact OnWay2.refl hg
  | @yes z hx hd =>
    have h0 : 0 ≤ s.ch := by
      have := of_decide_eq_true hx
      omega
    have st := step_of hg h0
    have hw : OnWay src (nx src s) (expS src (nx src s)) := by
      unfold expS
      split
      · rename_i hs
        have := of_decide_eq_true hs
        exact OnWay.one st.good (by omega)
      · exact OnWay.refl st.good
    have w := hw.thru (hd.way (by omega) hw.good)
    have e := expE_ec (src := src) (expS src (nx src s)) z
    have := st.far; have := st.ec; have := w.lo; have := w.ec
    exact ⟨e.2.2 w.good, by rw [e.1]; omega, by rw [e.1]; omega⟩
theorem NumR.way {s t : St} {k : Int} (h : NumR src s k t) (hg : Good src s) : OnWay2 src s t := by
  obtain ⟨a, b, p, q, h1, h2, h3, _⟩ := h
  have w0 := numS_way hg
  have w1 := w0.trans (h1.way (numB_le src s) w0.good).two
  have w2 : OnWay2 src a b := by
    cases h2 with
    | no => exact OnWay2.refl w1.good
    | yes hf hd =>
      have h0 : 0 ≤ a.ch := by
        have := of_decide_eq_true hf
        omega
      have wo := OnWay.one w1.good h0
      exact (wo.thru (hd.way (numB_le src s) wo.good)).two
  have w3 := w1.trans w2
  exact w3.trans (h3.way w3.good)
theorem sw2_ec (s : St) (a b : Int) : (sw2 src s a b).2.ec ≤ s.ec + 1 := by
  unfold sw2
  split
  · exact nx_ec1 src s
  · exact Nat.le_succ _
theorem sw3_ec (s : St) (a b c d : Int) : (sw3 src s a b c d).2.ec ≤ s.ec + 1 := by
  unfold sw3
  split
  · exact nx_ec1 src s
  · split
    · exact nx_ec1 src s
    · exact Nat.le_succ _
theorem sw4_ec (s : St) (a b c d e : Int) : (sw4 src s a b c d e).2.ec ≤ s.ec + 2 := by
  have h1 := nx_ec1 src s
  have h2 := nx_ec1 src (nx src s)
  unfold sw4
  split
  · show (nx src s).ec ≤ _
    omega
  · split
    · split
      · show (nx src (nx src s)).ec ≤ _
        omega
      · show (nx src s).ec ≤ _
        omega
    · show s.ec ≤ _
      omega
theorem symT_ec {t : St} {r : Tk} (h : symT src t = some r) : r.2.2.2.ec ≤ t.ec + 3 := by
  have h1 := nx_ec1 src t
  have h2 := nx_ec1 src (nx src t)
  have h3 := nx_ec1 src (nx src (nx src t))
  have a2 := fun a b => sw2_ec (src := src) (nx src t) a b
  have a3 := fun a b c d => sw3_ec (src := src) (nx src t) a b c d
  have a4 := fun a b c d e => sw4_ec (src := src) (nx src t) a b c d e
  have b2 := fun a b => sw2_ec (src := src) (nx src (nx src t)) a b
  unfold symT at h
  simp only at h
  rcases ite_some h with ⟨_, h⟩ | ⟨_, h⟩
  · obtain rfl := Option.some.inj h; refine Nat.le_trans (a2 _ _) ?_; omega
  rcases ite_some h with ⟨_, h⟩ | ⟨_, h⟩
  · obtain rfl := Option.some.inj h; split; exact (by show (nx src (nx src (nx src t))).ec ≤ _; omega); exact (by show (nx src t).ec ≤ _; omega)
  rcases ite_some h with ⟨_, h⟩ | ⟨_, h⟩
  · obtain rfl := Option.some.inj h; show (nx src t).ec ≤ _; omega
  rcases ite_some h with ⟨_, h⟩ | ⟨_, h⟩
  · obtain rfl := Option.some.inj h; show (nx src t).ec ≤ _; omega
  rcases ite_some h with ⟨_, h⟩ | ⟨_, h⟩
  · obtain rfl := Option.some.inj h; show (nx src t).ec ≤ _; omega
  rcases ite_some h with ⟨_, h⟩ | ⟨_, h⟩
  · obtain rfl := Option.some.inj h; show (nx src t).ec ≤ _; omega
  rcases ite_some h with ⟨_, h⟩ | ⟨_, h⟩
  · obtain rfl := Option.some.inj h; show (nx src t).ec ≤ _; omega
  rcases ite_some h with ⟨_, h⟩ | ⟨_, h⟩
  · obtain rfl := Option.some.inj h; show (nx src t).ec ≤ _; omega
  rcases ite_some h with ⟨_, h⟩ | ⟨_, h⟩
  · obtain rfl := Option.some.inj h; show (nx src t).ec ≤ _; omega
  rcases ite_some h with ⟨_, h⟩ | ⟨_, h⟩
  · obtain rfl := Option.some.inj h; show (nx src t).ec ≤ _; omega
  rcases ite_some h with ⟨_, h⟩ | ⟨_, h⟩
  · obtain rfl := Option.some.inj h; show (nx src t).ec ≤ _; omega
  rcases ite_some h with ⟨_, h⟩ | ⟨_, h⟩
  · obtain rfl := Option.some.inj h; refine Nat.le_trans (a3 _ _ _ _) ?_; omega
  rcases ite_some h with ⟨_, h⟩ | ⟨_, h⟩
  · obtain rfl := Option.some.inj h; refine Nat.le_trans (a3 _ _ _ _) ?_; omega
  rcases ite_some h with ⟨_, h⟩ | ⟨_, h⟩
  · obtain rfl := Option.some.inj h; refine Nat.le_trans (a2 _ _) ?_; omega
  rcases ite_some h with ⟨_, h⟩ | ⟨_, h⟩
  · rcases ite_some h with ⟨_, h⟩ | ⟨_, h⟩; exact absurd h (by simp); obtain rfl := Option.some.inj h; refine Nat.le_trans (a2 _ _) ?_; omega
  rcases ite_some h with ⟨_, h⟩ | ⟨_, h⟩
  · obtain rfl := Option.some.inj h; refine Nat.le_trans (a2 _ _) ?_; omega
  rcases ite_some h with ⟨_, h⟩ | ⟨_, h⟩
  · obtain rfl := Option.some.inj h; refine Nat.le_trans (a2 _ _) ?_; omega
  rcases ite_some h with ⟨_, h⟩ | ⟨_, h⟩
  · obtain rfl := Option.some.inj h; refine Nat.le_trans (a4 _ _ _ _ _) ?_; omega
  rcases ite_some h with ⟨_, h⟩ | ⟨_, h⟩
  · obtain rfl := Option.some.inj h; refine Nat.le_trans (a4 _ _ _ _ _) ?_; omega
  rcases ite_some h with ⟨_, h⟩ | ⟨_, h⟩
  · obtain rfl := Option.some.inj h; refine Nat.le_trans (a2 _ _) ?_; omega
  rcases ite_some h with ⟨_, h⟩ | ⟨_, h⟩
  · obtain rfl := Option.some.inj h; refine Nat.le_trans (a2 _ _) ?_; omega
  rcases ite_some h with ⟨_, h⟩ | ⟨_, h⟩
  · obtain rfl := Option.some.inj h; split; exact Nat.le_trans (b2 _ _) (by omega); exact Nat.le_trans (a3 _ _ _ _) (by omega)
  rcases ite_some h with ⟨_, h⟩ | ⟨_, h⟩
  · obtain rfl := Option.some.inj h; refine Nat.le_trans (a3 _ _ _ _) ?_; omega
  exact absurd h (by simp)
theorem endErr_ec (t : St) (b : Bool) : (endErr t b).ec ≤ t.ec + 1 := by
  unfold endErr
  cases b
  · exact Nat.le_refl _
  · exact Nat.le_succ _
theorem runEnd_ec (t : St) (b : Bool) (n : Nat) (v : Bool) : (runEnd t b n v).ec ≤ t.ec + 1 := by
  unfold runEnd
  split
  · exact Nat.le_refl _
  · exact Nat.le_succ _
theorem rawEnd_ec (t : St) (b : Bool) : (rawEnd t b).ec ≤ t.ec + 1 := by
  unfold rawEnd
  cases b
  · exact Nat.le_refl _
  · exact Nat.le_succ _
/-- a token's errors -/
theorem TokR.ecb {t v : St} {k : Int} {l : List UInt8} (h : TokR src t k l v) (hg : Good src t) : v.ec ≤ t.ec + 3 * src.length + 8 := by
  have hn := nx_ec1 src t
  have hgn := (nx_far hg).1
  have hle := hgn.le.2.2
  cases h with
  | ident hL hr =>
    have w := hr.way hg
    have := w.ec; have := w.good.le
    rw [(fin_off _ _).2.2]
    omega
  | num _ _ hr =>
    have w := hr.way hg
    have := w.ec; have := w.good.le
    rw [(fin_off _ _).2.2]
    omega
  | eofS => show (nx src t).ec ≤ _; omega
  | eof => rw [(fin_off _ _).2.2]; omega
  | nl => show (nx src t).ec ≤ _; omega
  | @str u b _ hr =>
    have w := hr.way hgn
    have := w.ec; have := w.good.le; have := endErr_ec u b
    rw [(fin_off _ _).2.2]
    omega
  | @chr u b v n _ hr =>
    have w := hr.way hgn
    have := w.ec; have := w.good.le; have := runEnd_ec u b n v
    rw [(fin_off _ _).2.2]
    omega
  | @raw u b _ hr =>
    have w := hr.way hgn
    have := w.ec; have := w.good.le; have := rawEnd_ec u b
    rw [(fin_off _ _).2.2]
    omega
  | sym _ _ hs =>
    have := symT_ec hs
    rw [(fin_off _ _).2.2]
    simp only at this
    omega
  | @comS u h1 _ h2 h3 =>
    have f := CX.f (Or.inr ⟨rfl, h2, u, h3, rfl⟩) hg h1
    have := f.ec
    show (nx src (rst ((nx src t).off - 1) u)).ec ≤ _
    split at this <;> omega
  | comT h1 _ hc _ hr =>
    have f := CX.f (Or.inl ⟨rfl, hc⟩) hg h1
    have w := hr.way f.good
    have hq := f.ec; have := w.1.le
    rw [(fin_off _ _).2.2]
    split at hq <;> omega
  | ill =>
    rw [(fin_off _ _).2.2]
    split
    · omega
    · show (nx src t).ec + 1 ≤ _
      omega
/-- one call's errors -/
theorem ScanR.ecb {s v : St} {k : Int} {l : List UInt8} {o : Nat} (h : ScanR src s k l o v) : Good src s → v.ec ≤ pot src.length s + 3 * src.length + 8 := by
  induction h with
  | @tok s t u k l h1 h2 =>
    intro hg
    have w := h1.way hg
    have := h2.ecb w.good
    have := w.ec; have := w.good.le; have := w.lo
    unfold pot
    omega
  | @com s t x u v k l txt o h1 h2 h3 hx h4 hr h5 ih =>
    intro hg
    have hw := h1.way hg
    have hf := CX.f (Or.inl ⟨rfl, hx⟩) hw.good h2
    have hp := pot_com ⟨hw.good, hw.lo, hw.ec, h1.kp.semi⟩ hf hr
    have := ih (hr.way hf.good).1
    omega
theorem pot_le (s : St) : pot src.length s ≤ s.ec + 3 * src.length + 2 := by
  unfold pot
  split <;> omega
theorem ScanR.ecn {s v : St} {k : Int} {l : List UInt8} {o : Nat} (h : ScanR src s k l o v) (hg : Good src s) : v.ec ≤ s.ec + 6 * src.length + 10 := by
  have := h.ecb hg
  have := pot_le (src := src) s
  omega
end Go.Proofs.YtamfekpcoppbgaaFmt
