/-
  Scan in plain words: how far each part reads and how many errors it counts. No program in sight; no conditions.
-/
import Derived.Test.YtamfekpcoppbgaaFmtSnP
namespace Go.Proofs.YtamfekpcoppbgaaFmt
open Go.RowKit
set_option maxRecDepth 100000
set_option linter.unusedVariables false

theorem OnWay.thru {src : List UInt8} {a b c : St} (h : OnWay src a b) (k : OnWay src b c) : OnWay src a c := ⟨k.good, Nat.le_trans h.lo k.lo, by have := h.ec; have := k.ec; omega⟩
theorem OnWay.one {src : List UInt8} {s : St} (h : Good src s) (hc : 0 ≤ s.ch) : OnWay src s (nx src s) := (OnWay.refl h).next hc
theorem SkipR.way {src : List UInt8} {s t : St} (h : SkipR src s t) : Good src s → OnWay src s t := by
  induction h with
  | stop => exact OnWay.refl
  | @step s t h1 h2 ih => exact fun hg => (OnWay.one hg (wsp_pos h1)).thru (ih (OnWay.one hg (wsp_pos h1)).good)
theorem LnR.way {src : List UInt8} {s t : St} (h : LnR src s t) : Good src s → OnWay src s t := by
  induction h with
  | stop => exact OnWay.refl
  | @step s t h1 _ _ ih => exact fun hg => (OnWay.one hg h1).thru (ih (OnWay.one hg h1).good)
theorem BkR.way {src : List UInt8} {s t : St} {b : Bool} (h : BkR src s t b) : Good src s → OnWay src s t := by
  induction h with
  | eof => exact OnWay.refl
  | @shut s h1 h2 => exact fun hg => ((OnWay.refl hg).next (by omega)).next (by omega)
  | @step s t b h1 _ _ ih => exact fun hg => (OnWay.one hg h1).thru (ih (OnWay.one hg h1).good)
theorem BlkN.way {src : List UInt8} {s t : St} {k : Nat} (h : BlkN src s t k) : Good src s → OnWay src s t := by
  induction h with
  | eof => exact OnWay.refl
  | nl => exact OnWay.refl
  | @shut s h1 h2 => exact fun hg => ((OnWay.refl hg).next (by omega)).next (by omega)
  | @step s t k h1 _ _ _ ih => exact fun hg => (OnWay.one hg h1).thru (ih (OnWay.one hg h1).good)
theorem FleR.way {src : List UInt8} {s t : St} {b : Bool} (h : FleR src s b t) : Good src s → OnWay src s t := by
  induction h with
  | slash => exact OnWay.refl
  | other => exact OnWay.refl
  | @line s u h1 hb => exact fun hg => (OnWay.one hg (by omega)).thru (hb.way (OnWay.one hg (by omega)).good)
  | @endT s u v k h1 hb _ hs _ =>
    intro hg
    have a := (OnWay.one hg (by omega)).thru (hb.way (OnWay.one hg (by omega)).good)
    exact a.thru (hs.way a.good)
  | @stopF s u v k h1 hb _ hs _ _ _ =>
    intro hg
    have a := (OnWay.one hg (by omega)).thru (hb.way (OnWay.one hg (by omega)).good)
    exact a.thru (hs.way a.good)
  | @more s u v z k b h1 hb _ hs h2 _ ih =>
    intro hg
    have a := (OnWay.one hg (by omega)).thru (hb.way (OnWay.one hg (by omega)).good)
    have c := (a.thru (hs.way a.good)).next (by omega)
    exact c.thru (ih c.good)
theorem ComR.way {src : List UInt8} {s u : St} {txt : List UInt8} (h : ComR src s u txt) (hg : Good src s) : Good src u ∧ s.off < u.off ∧ u.ec + s.off ≤ s.ec + u.off + 1 := by
  rcases h with ⟨h0, h, _⟩ | ⟨h0, ⟨t, b, h, rfl⟩, _⟩
  · have st := step_of hg (by omega)
    have a := h.way st.good
    have := st.far; have := st.ec; have := a.lo; have := a.ec
    have b := (OnWay.one hg (by omega)).thru a
    exact ⟨a.good, by omega, by have := b.ec; omega⟩
  · have st := step_of hg (by omega)
    have a := h.way st.good
    have := st.far; have := a.lo
    have c := (OnWay.one hg (by omega)).thru a
    have := c.ec
    cases b
    · exact ⟨err_good a.good, by show s.off < t.off; omega, by show t.ec + 1 + s.off ≤ s.ec + t.off + 1; omega⟩
    · exact ⟨a.good, by show s.off < t.off; omega, by show t.ec + s.off ≤ s.ec + t.off + 1; omega⟩

/-- next depends on where it reads alone -/
theorem nx_same (src : List UInt8) (a b : St) (h : a.rd = b.rd) : (nx src a).ch = (nx src b).ch ∧ (nx src a).off = (nx src b).off ∧ (nx src a).ec ≤ a.ec + 1 ∧ (b.rd ≤ src.length → (nx src a).rd = (nx src b).rd) := by
  refine ⟨?_, ?_, nx_ec1 src a, fun hb => ?_⟩
  · unfold nx
    rw [h]
    split <;> rfl
  · unfold nx
    rw [h]
    split <;> rfl
  · unfold nx
    rw [h]
    split
    · rfl
    · show a.rd = b.rd
      exact h
/-- behind findLineEnd: a newline is due (b), or the comment's scan begins at x -/
def CX (src : List UInt8) (t : St) (b : Bool) (x : St) : Prop :=
  (b = false ∧ ComX src t x) ∨ (b = true ∧ t.semi = true ∧ ∃ u, FleR src (nx src t) true u ∧ x = nx src (rst ((nx src t).off - 1) u))
structure CXf (src : List UInt8) (t x : St) : Prop where
  good : Good src x
  off : x.off = t.off + 1
  rd : x.rd = (nx src t).rd
  ch : x.ch = (nx src t).ch
  prev : bt src t.off = 47
  lt : t.off < src.length
  ec : x.ec ≤ t.ec + 1 + (if t.semi = true then src.length + 1 - t.off else 0)
  mode : x.mode = t.mode
  semi : x.semi = t.semi
theorem CXf.of {src : List UInt8} {t x : St} (hg : Good src t) (hch : t.ch = 47) (h : (t.semi = false ∧ x = nx src t) ∨ (t.semi = true ∧ ∃ b u, FleR src (nx src t) b u ∧ x = nx src (rst ((nx src t).off - 1) u))) : CXf src t x := by
  have hst := step_of hg (by omega)
  have ha := (Good.ascii hg 47 (by omega)).1 hch
  have h1 := hst.one (by rw [ha.2]; omega)
  have hr : t.rd = t.off + 1 := by
    rcases hg with ⟨h1, h2, _⟩ | ⟨h1, _, h3⟩
    · have f := rn_facts src t.off h1
      rw [f.2.2.2.2.2 (by rw [ha.2]; omega)] at h2
      exact h2
    · omega
  rcases h with ⟨hs, rfl⟩ | ⟨hs, b, u, hf, rfl⟩
  · exact ⟨hst.good, h1, rfl, rfl, ha.2, ha.1, by rw [if_neg (by rw [hs]; decide)]; have := hst.ec; omega, (Kp.nx src t).mode, (Kp.nx src t).semi⟩
  · have hw := hf.way hst.good
    have hs1 := nx_same src (rst ((nx src t).off - 1) u) t (by show (nx src t).off - 1 + 1 = t.rd; omega)
    have hkp : Kp t (nx src (rst ((nx src t).off - 1) u)) := ((Kp.nx src t).trans hf.kp).trans ((rst_kp _ _).trans (Kp.nx src _))
    have hgx : Good src (nx src (rst ((nx src t).off - 1) u)) := nx_good src _ (by show (nx src t).off - 1 + 1 ≤ _; have := hst.good.le; omega)
    refine ⟨hgx, by rw [hs1.2.1, h1], hs1.2.2.2 hg.le.2.1, hs1.1, ha.2, ha.1, ?_, hkp.mode, hkp.semi⟩
    rw [if_pos hs]
    have := hs1.2.2.1
    have e1 : (rst ((nx src t).off - 1) u).ec = u.ec := rfl
    have := hw.ec; have := hw.good.le; have := hst.ec; have := ha.1
    omega
theorem CX.f {src : List UInt8} {t x : St} {b : Bool} (h : CX src t b x) (hg : Good src t) (hch : t.ch = 47) : CXf src t x := by
  refine CXf.of hg hch ?_
  rcases h with ⟨_, ⟨h1, h2⟩ | ⟨h1, u, h2, h3⟩⟩ | ⟨_, h1, u, h2, h3⟩
  · exact Or.inl ⟨h1, h2⟩
  · exact Or.inr ⟨h1, false, u, h2, h3⟩
  · exact Or.inr ⟨h1, true, u, h2, h3⟩
theorem CX.back {src : List UInt8} {t x : St} (h : CX src t true x) : t.semi = true ∧ ∃ u, FleR src (nx src t) true u ∧ { rst t.off x with semi := false } = comBack src t u := by
  rcases h with ⟨h, _⟩ | ⟨_, h1, u, h2, rfl⟩
  · exact absurd h (by decide)
  · exact ⟨h1, u, h2, rfl⟩
theorem CX.no {src : List UInt8} {t x : St} (h : CX src t false x) : ComX src t x := by
  rcases h with ⟨_, h⟩ | ⟨h, _⟩
  · exact h
  · exact absurd h (by decide)
theorem symT_slash {src : List UInt8} {t : St} (h : t.ch = 47) (hn : ¬ ((nx src t).ch = 47 ∨ (nx src t).ch = 42)) : symT src t = some (ofSw (sw2 src (nx src t) 14 25)) := by
  have h1 : ¬ (nx src t).ch = 47 := fun e => hn (Or.inl e)
  have h2 : ¬ (nx src t).ch = 42 := fun e => hn (Or.inr e)
  simp [symT, h, h1, h2]
/-- the bound of what is to come -/
def pot (n : Nat) (s : St) : Nat := s.ec + 2 * (n - s.off) + (if s.semi = true then n + 2 else 0)
theorem pot_com {src : List UInt8} {s t x u : St} {txt : List UInt8} (h : SkWay src s t) (hx : CXf src t x) (hr : ComR src x u txt) : pot src.length { u with semi := false } ≤ pot src.length s := by
  have hw := hr.way hx.good
  have h1 := h.ec; have h2 := h.off; have h3 := hx.ec; have h4 := hx.off; have h5 := hw.1.le; have h6 := hx.lt
  have h7 := h.semi
  unfold pot
  rw [h7] at h3
  show u.ec + 2 * (src.length - u.off) + 0 ≤ _
  split at h3 <;> rename_i hq
  · rw [if_pos hq]
    omega
  · rw [if_neg hq]
    omega
end Go.Proofs.YtamfekpcoppbgaaFmt
