/-
  The two-pass model of a line's end, and that findLineEnd's way answers as it does. No program in sight; no conditions.
-/
import Derived.Test.YthhmkkpginddbaaFmtFl2
namespace Go.Proofs.YthhmkkpginddbaaFmt
set_option linter.unusedVariables false

def wsB (c : Nat) : Prop := c = 32 ∨ c = 9 ∨ c = 13
def opn (l : List UInt8) (i : Nat) : Prop := i + 1 < l.length ∧ bt l i = 47 ∧ bt l (i + 1) = 42
def cls (l : List UInt8) (j : Nat) : Prop := j + 1 < l.length ∧ bt l j = 42 ∧ bt l (j + 1) = 47
structure SpanE (l : List UInt8) (i e : Nat) (c : Bool) : Prop where
  lo : i + 2 ≤ e
  hi : e ≤ l.length
  none : ∀ j, i + 2 ≤ j → j + 2 < e → ¬ cls l j
  shut : c = true → i + 4 ≤ e ∧ cls l (e - 2)
  unshut : c = false → e = l.length ∧ ∀ j, i + 2 ≤ j → ¬ cls l j
def upd (S : Nat → Bool) (i e : Nat) (v : Bool) (t : Nat) : Bool := if i ≤ t ∧ t < e then v else S t
def FlagE (l : List UInt8) (i e : Nat) (c fl : Bool) : Prop := fl = true ↔ (c = false ∨ ∃ t, i ≤ t ∧ t < e ∧ bt l t = 10)
inductive PassF (l : List UInt8) : Nat → (Nat → Bool) → (Nat → Bool) → (Nat → Bool) → (Nat → Bool) → Prop
  | done {i : Nat} {S D : Nat → Bool} : l.length ≤ i → PassF l i S D S D
  | skip {i : Nat} {S D S' D' : Nat → Bool} : i < l.length → ¬ opn l i → PassF l (i + 1) S D S' D' → PassF l i S D S' D'
  | span {i e : Nat} {c fl : Bool} {S D S' D' : Nat → Bool} : opn l i → SpanE l i e c → FlagE l i e c fl → PassF l e (upd S i e true) (upd D i e fl) S' D' → PassF l i S D S' D'
theorem PassF.keep {l : List UInt8} {i : Nat} {S D S' D' : Nat → Bool} (h : PassF l i S D S' D') : ∀ t, t < i → S' t = S t ∧ D' t = D t := by
  induction h with
  | done _ => exact fun t _ => ⟨rfl, rfl⟩
  | skip _ _ _ ih => exact fun t ht => ih t (by omega)
  | @span i e c fl S D S' D' _ he _ _ ih =>
    intro t ht
    have := ih t (by have := he.lo; omega)
    rw [this.1, this.2]
    unfold upd
    rw [if_neg (by omega), if_neg (by omega)]
    exact ⟨rfl, rfl⟩
theorem PassF.over {l : List UInt8} {S D S' D' : Nat → Bool} : ∀ (d i g : Nat), g - i = d → PassF l i S D S' D' → i ≤ g → (∀ t, i ≤ t → t < g → wsB (bt l t)) → PassF l g S D S' D' := by
  intro d
  induction d with
  | zero =>
    intro i g hd h hg hw
    obtain rfl : g = i := by omega
    exact h
  | succ d ih =>
    intro i g hd h hg hw
    have h0 := hw i (Nat.le_refl _) (by omega)
    cases h with
    | done hl => exact PassF.done (by omega)
    | skip hl hn hr => exact ih (i + 1) g (by omega) hr (by omega) (fun t h1 h2 => hw t (by omega) h2)
    | span ho _ _ _ => unfold wsB at h0; have := ho.2.1; omega
def Ans (l : List UInt8) (S D : Nat → Bool) (b : Bool) : Prop :=
  ∃ f, f ≤ l.length ∧ (∀ t, t < f → S t = true ∨ wsB (bt l t)) ∧ (f < l.length → S f = false ∧ ¬ wsB (bt l f)) ∧
    ((∃ t, t < f ∧ S t = true ∧ D t = true) → b = true) ∧
    ((∀ t, t < f → ¬ (S t = true ∧ D t = true)) → b = decide (f = l.length ∨ bt l f = 10 ∨ (f + 1 < l.length ∧ bt l f = 47 ∧ bt l (f + 1) = 47)))

section
variable {src l : List UInt8}
theorem skip_far2 {s v : St} (h : SkipR src s v) : Good src s → s.semi = true → s.off ≤ v.off ∧ Good src v ∧ v.semi = true ∧ wsp v = false ∧ ∀ t, s.off ≤ t → t < v.off → wsB (bt src t) := by
  induction h with
  | @stop s hw => exact fun hg hse => ⟨Nat.le_refl _, hg, hse, hw, fun t h1 h2 => by omega⟩
  | @step s t hw hr ih =>
    intro hg hse
    have hx := of_decide_eq_true hw
    rw [hse] at hx
    have hb : s.off < src.length ∧ wsB (bt src s.off) := by
      rcases hx with h | h | ⟨_, h⟩ | h
      · have := (hg.ascii 32 (by decide)).1 h
        exact ⟨this.1, Or.inl this.2⟩
      · have := (hg.ascii 9 (by decide)).1 h
        exact ⟨this.1, Or.inr (Or.inl this.2)⟩
      · cases h
      · have := (hg.ascii 13 (by decide)).1 h
        exact ⟨this.1, Or.inr (Or.inr this.2)⟩
    obtain ⟨n1, n2, n3, _, _⟩ := nx_ascii hg hb.1 (by rcases hb.2 with h | h | h <;> omega)
    obtain ⟨i1, i2, i3, i4, i5⟩ := ih n3 ((nx_semi src s).trans hse)
    refine ⟨by omega, i2, i3, i4, fun t h1 h2 => ?_⟩
    by_cases e : t = s.off
    · rw [e]
      exact hb.2
    · exact i5 t (by omega) h2
/-- what the inner loop finds, byte by byte of l -/
def BlkAt (l : List UInt8) (src : List UInt8) (p : Nat) (u : St) : Nat → Prop
  | 0 => ∃ q, p ≤ q ∧ q < l.length ∧ bt l q = 10 ∧ ∀ j, p ≤ j → j < q → ¬ cls l j
  | 1 => ∃ j, p ≤ j ∧ cls l j ∧ u.off = j + 3 ∧ Good src u ∧ (∀ i, p ≤ i → i < j → ¬ cls l i) ∧ ∀ t, p ≤ t → t < j + 2 → bt l t ≠ 10
  | _ => u.off = l.length + 1 ∧ Good src u ∧ ∀ j, p ≤ j → ¬ cls l j
theorem blk_at (hsrc : ∀ i, bt src (i + 1) = bt l i) (hlen : src.length = l.length + 1) {s u : St} {k : Nat} (h : BlkN src s u k) : ∀ p, Good src s → s.off = p + 1 → BlkAt l src p u k := by
  induction h with
  | @eof s hc =>
    intro p hg hp
    rcases hg with ⟨g1, g2, g3⟩ | ⟨g1, g2, g3⟩
    · omega
    · exact ⟨by omega, Or.inr ⟨g1, g2, g3⟩, fun j hj hc => by have := hc.1; omega⟩
  | @nl s hc =>
    intro p hg hp
    have := (hg.ascii 10 (by decide)).1 hc
    exact ⟨p, Nat.le_refl _, by omega, by rw [← hsrc, ← hp]; exact this.2, fun j h1 h2 => by omega⟩
  | @shut s h1 h2 =>
    intro p hg hp
    have ha := (hg.ascii 42 (by decide)).1 h1
    obtain ⟨n1, n2, n3, _, _⟩ := nx_ascii hg ha.1 (by omega)
    have hb := (n3.ascii 47 (by decide)).1 h2
    obtain ⟨m1, m2, m3, _, _⟩ := nx_ascii n3 hb.1 (by omega)
    have e1 : bt l p = 42 := by rw [← hsrc, ← hp]; exact ha.2
    have e2 : bt l (p + 1) = 47 := by rw [← hsrc, show p + 1 + 1 = (nx src s).off by omega]; exact hb.2
    refine ⟨p, Nat.le_refl _, ⟨by omega, e1, e2⟩, by omega, m3, fun i i1 i2 => by omega, fun t t1 t2 => ?_⟩
    have : t = p ∨ t = p + 1 := by omega
    rcases this with rfl | rfl <;> omega
  | @step s u k h0 h10 hn hr ih =>
    intro p hg hp
    have st := step_of hg h0
    have hlt := st.lt
    have hfar := st.far
    obtain ⟨p', hp'⟩ : ∃ p', (nx src s).off = p' + 1 := ⟨(nx src s).off - 1, by omega⟩
    have hI := ih p' st.good hp'
    have hne : bt l p ≠ 10 := by
      rw [← hsrc, ← hp]
      intro e
      exact h10 ((hg.ascii 10 (by decide)).2 ⟨hlt, e⟩)
    have hnc : ¬ cls l p := by
      rintro ⟨c1, c2, c3⟩
      have hc2 : bt src s.off = 42 := by rw [hp, hsrc]; exact c2
      have h42 := (hg.ascii 42 (by decide)).2 ⟨hlt, hc2⟩
      obtain ⟨n1, n2, n3, _, _⟩ := nx_ascii hg hlt (by omega)
      refine hn ⟨h42, (n3.ascii 47 (by decide)).2 ⟨by omega, ?_⟩⟩
      rw [n2, hp, hsrc]
      exact c3
    have hmid : ∀ t, p < t → t < p' → 128 ≤ bt l t := by
      intro t t1 t2
      rw [← hsrc]
      exact st.rest (t + 1) (by omega) (by omega)
    have hcl : ∀ j, p ≤ j → j < p' → ¬ cls l j := by
      intro j j1 j2
      by_cases e : j = p
      · rw [e]
        exact hnc
      · rintro ⟨_, c2, _⟩
        have := hmid j (by omega) j2
        omega
    have hnl : ∀ t, p ≤ t → t < p' → bt l t ≠ 10 := by
      intro t t1 t2
      by_cases e : t = p
      · rw [e]
        exact hne
      · have := hmid t (by omega) t2
        omega
    match k, hI with
    | 0, ⟨q, q1, q2, q3, q4⟩ =>
      refine ⟨q, by omega, q2, q3, fun j j1 j2 => ?_⟩
      by_cases e : j < p'
      · exact hcl j j1 e
      · exact q4 j (by omega) j2
    | 1, ⟨q, q1, q2, q3, q4, q5, q6⟩ =>
      refine ⟨q, by omega, q2, q3, q4, fun i i1 i2 => ?_, fun t t1 t2 => ?_⟩
      · by_cases e : i < p'
        · exact hcl i i1 e
        · exact q5 i (by omega) i2
      · by_cases e : t < p'
        · exact hnl t t1 e
        · exact q6 t (by omega) t2
    | k + 2, ⟨q1, q2, q3⟩ =>
      refine ⟨q1, q2, fun j j1 => ?_⟩
      by_cases e : j < p'
      · exact hcl j j1 e
      · exact q3 j (by omega)
/-- the first byte that the second pass stops at -/
theorem ans_at {S D : Nat → Bool} {b : Bool} (h : Ans l S D b) (f : Nat) (h1 : ∀ t, t < f → (S t = true ∨ wsB (bt l t)) ∧ ¬ (S t = true ∧ D t = true)) (hf : f ≤ l.length) (h2 : f < l.length → S f = false ∧ ¬ wsB (bt l f)) :
    b = decide (f = l.length ∨ bt l f = 10 ∨ (f + 1 < l.length ∧ bt l f = 47 ∧ bt l (f + 1) = 47)) := by
  obtain ⟨g, g1, g2, g3, g4, g5⟩ := h
  have e : g = f := by
    rcases Nat.lt_trichotomy g f with hl | hl | hl
    · have := g3 (by omega)
      rcases (h1 g hl).1 with h | h
      · rw [this.1] at h
        cases h
      · exact absurd h this.2
    · exact hl
    · have := h2 (by omega)
      rcases g2 f hl with h | h
      · rw [this.1] at h
        cases h
      · exact absurd h this.2
  subst e
  exact g5 (fun t ht => (h1 t ht).2)
theorem ans_bad {S D : Nat → Bool} {b : Bool} (h : Ans l S D b) (f : Nat) (hf : f < l.length) (h1 : ∀ t, t < f → S t = true ∨ wsB (bt l t)) (h2 : S f = true) (h3 : D f = true) : b = true := by
  obtain ⟨g, g1, g2, g3, g4, g5⟩ := h
  refine g4 ⟨f, ?_, h2, h3⟩
  rcases Nat.lt_trichotomy g f with hl | hl | hl
  · have := g3 (by omega)
    rcases h1 g hl with h | h
    · rw [this.1] at h
      cases h
    · exact absurd h this.2
  · subst hl
    have := g3 hf
    rw [this.1] at h2
    cases h2
  · exact hl
/-- what is known of the pass where it comes to the '/' at i -/
structure AtI (l : List UInt8) (i : Nat) (S0 D0 S D : Nat → Bool) : Prop where
  pass : PassF l i S0 D0 S D
  prev : ∀ t, t < i → (S0 t = true ∨ wsB (bt l t)) ∧ ¬ (S0 t = true ∧ D0 t = true)
  next : ∀ t, i ≤ t → S0 t = false
  lt : i < l.length
  sl : bt l i = 47
theorem AtI.stop {i : Nat} {S0 D0 S D : Nat → Bool} {b : Bool} (h : AtI l i S0 D0 S D) (hn : ¬ opn l i) (ha : Ans l S D b) : b = decide (i + 1 < l.length ∧ bt l (i + 1) = 47) := by
  have hk : ∀ t, t < i + 1 → S t = S0 t ∧ D t = D0 t := by
    have hp := h.pass
    cases hp with
    | done hl => exact absurd h.lt (by omega)
    | skip _ _ hr => exact hr.keep
    | span ho _ _ _ => exact absurd ho hn
  have := ans_at ha i (fun t ht => by rw [(hk t (by omega)).1, (hk t (by omega)).2]; exact h.prev t ht) (Nat.le_of_lt h.lt) (fun _ => ⟨by rw [(hk i (by omega)).1]; exact h.next i (Nat.le_refl _), by unfold wsB; have := h.sl; omega⟩)
  rw [this]
  have h1 := h.lt
  have h2 := h.sl
  apply decide_eq_decide.2
  constructor
  · rintro (h | h | h)
    · omega
    · omega
    · exact ⟨h.1, h.2.2⟩
  · exact fun h => Or.inr (Or.inr ⟨h.1, h2, h.2⟩)
theorem AtI.open_ {i : Nat} {S0 D0 S D : Nat → Bool} (h : AtI l i S0 D0 S D) (ho : opn l i) : ∃ e c fl, SpanE l i e c ∧ FlagE l i e c fl ∧ PassF l e (upd S0 i e true) (upd D0 i e fl) S D := by
  have hp := h.pass
  cases hp with
  | done hl => exact absurd h.lt (by omega)
  | skip _ hn _ => exact absurd ho hn
  | span _ h1 h2 h3 => exact ⟨_, _, _, h1, h2, h3⟩
theorem AtI.bad {i e : Nat} {c : Bool} {S0 D0 S D : Nat → Bool} {b : Bool} (h : AtI l i S0 D0 S D) (he : SpanE l i e c) (hp : PassF l e (upd S0 i e true) (upd D0 i e true) S D) (ha : Ans l S D b) : b = true := by
  have hk := hp.keep
  have hlo := he.lo
  refine ans_bad ha i h.lt (fun t ht => ?_) ?_ ?_
  · rw [(hk t (by omega)).1, upd, if_neg (by omega)]
    exact (h.prev t ht).1
  · rw [(hk i (by omega)).1, upd, if_pos (by omega)]
  · rw [(hk i (by omega)).2, upd, if_pos (by omega)]
theorem fle_law (hsrc : ∀ i, bt src (i + 1) = bt l i) (hlen : src.length = l.length + 1) {s u : St} {b : Bool} (h : FleR src s b u) : ∀ (i : Nat) (S0 D0 S D : Nat → Bool) (b' : Bool), Good src s → s.semi = true → s.off = i + 2 → AtI l i S0 D0 S D → Ans l S D b' → b' = b := by
  have hnext : ∀ (s : St) (i c : Nat), Good src s → s.off = i + 2 → c < 128 → (s.ch = (c : Int) ↔ i + 1 < l.length ∧ bt l (i + 1) = c) := by
    intro s i c hg ho hc
    have := hg.ascii c hc
    rw [ho, hsrc, hlen] at this
    rw [this]
    constructor
    · exact fun h => ⟨by omega, h.2⟩
    · exact fun h => ⟨by omega, h.2⟩
  -- the span that a closed comment without a newline leaves
  have hclosed : ∀ (s u : St) (i : Nat) (S0 D0 S D : Nat → Bool), Good src s → s.ch = 42 → s.off = i + 2 → s.semi = true → AtI l i S0 D0 S D → BlkN src (nx src s) u 1 → ∃ e, e ≤ l.length ∧ i + 4 ≤ e ∧ u.off = e + 1 ∧ Good src u ∧ u.semi = true ∧ PassF l e (upd S0 i e true) (upd D0 i e false) S D := by
    intro s u i S0 D0 S D hg h42 ho hse hA hB
    have ho2 := (hnext s i 42 hg ho (by decide)).1 h42
    obtain ⟨n1, n2, n3, _, _⟩ := nx_ascii hg (by omega) (by rw [ho, hsrc]; omega)
    obtain ⟨j, j1, j2, j3, j4, j5, j6⟩ := blk_at hsrc hlen hB (i + 2) n3 (by omega)
    obtain ⟨e, c, fl, he, hf, hp⟩ := hA.open_ ⟨ho2.1, hA.sl, ho2.2⟩
    have hc : c = true := by
      rcases hcc : c with _ | _
      · exact absurd j2 ((he.unshut hcc).2 j j1)
      · rfl
    have hs := he.shut hc
    have hej : e = j + 2 := by
      rcases Nat.lt_trichotomy e (j + 2) with hl | hl | hl
      · exact absurd hs.2 (j5 (e - 2) (by omega) (by omega))
      · exact hl
      · exact absurd j2 (he.none j j1 hl)
    have hfl : fl = false := by
      rcases hh : fl with _ | _
      · rfl
      · rcases hf.1 hh with h | ⟨t, t1, t2, t3⟩
        · rw [hc] at h
          cases h
        · by_cases ht : t < i + 2
          · have : t = i ∨ t = i + 1 := by omega
            rcases this with rfl | rfl
            · have := hA.sl
              omega
            · have := ho2.2
              omega
          · exact absurd t3 (j6 t (by omega) (by omega))
    rw [hfl] at hp
    exact ⟨e, he.hi, hs.1, by omega, j4, (hB.way n3).semi.trans ((nx_semi src s).trans hse), hp⟩
  -- a comment that is not closed, or that holds a newline
  have hbad : ∀ (s u : St) (k i : Nat) (S0 D0 S D : Nat → Bool) (b' : Bool), Good src s → s.ch = 42 → s.off = i + 2 → AtI l i S0 D0 S D → BlkN src (nx src s) u k → k ≠ 1 → Ans l S D b' → b' = true := by
    intro s u k i S0 D0 S D b' hg h42 ho hA hB hk ha
    have ho2 := (hnext s i 42 hg ho (by decide)).1 h42
    obtain ⟨n1, n2, n3, _, _⟩ := nx_ascii hg (by omega) (by rw [ho, hsrc]; omega)
    have hBA := blk_at hsrc hlen hB (i + 2) n3 (by omega)
    obtain ⟨e, c, fl, he, hf, hp⟩ := hA.open_ ⟨ho2.1, hA.sl, ho2.2⟩
    have hfl : fl = true := by
      match k, hBA, hk with
      | 0, ⟨q, q1, q2, q3, q4⟩, _ =>
        refine hf.2 ?_
        rcases hcc : c with _ | _
        · exact Or.inl rfl
        · have hs := he.shut hcc
          refine Or.inr ⟨q, by omega, ?_, q3⟩
          rcases Nat.lt_or_ge q e with hl | hl
          · exact hl
          · exact absurd hs.2 (q4 (e - 2) (by omega) (by omega))
      | k + 2, ⟨q1, q2, q3⟩, _ =>
        refine hf.2 (Or.inl ?_)
        rcases hcc : c with _ | _
        · rfl
        · have hs := he.shut hcc
          exact absurd hs.2 (q3 (e - 2) (by omega))
    rw [hfl] at hp
    exact hA.bad he hp ha
  have hafter : ∀ (u v : St) (e i : Nat) (S0 D0 S D : Nat → Bool), e ≤ l.length → i + 4 ≤ e → u.off = e + 1 → Good src u → u.semi = true → AtI l i S0 D0 S D → PassF l e (upd S0 i e true) (upd D0 i e false) S D → SkipR src u v →
      ∃ g, g ≤ l.length ∧ v.off = g + 1 ∧ Good src v ∧ v.semi = true ∧ wsp v = false ∧ PassF l g (upd S0 i e true) (upd D0 i e false) S D ∧ (∀ t, t < g → (upd S0 i e true t = true ∨ wsB (bt l t)) ∧ ¬ (upd S0 i e true t = true ∧ upd D0 i e false t = true)) ∧ (∀ t, g ≤ t → upd S0 i e true t = false) := by
    intro u v e i S0 D0 S D he1 he2 hu hgu hsu hA hp hsk
    obtain ⟨f1, f2, f3, f4, f5⟩ := skip_far2 hsk hgu hsu
    obtain ⟨g, hg⟩ : ∃ g, v.off = g + 1 := ⟨v.off - 1, by omega⟩
    have hgl : g ≤ l.length := by have := f2.le; omega
    have hws : ∀ t, e ≤ t → t < g → wsB (bt l t) := fun t t1 t2 => by rw [← hsrc]; exact f5 (t + 1) (by omega) (by omega)
    refine ⟨g, hgl, hg, f2, f3, f4, hp.over _ e g rfl (by omega) hws, fun t ht => ?_, fun t ht => ?_⟩
    · unfold upd
      by_cases h1 : i ≤ t ∧ t < e
      · rw [if_pos h1, if_pos h1]
        exact ⟨Or.inl rfl, fun h => by cases h.2⟩
      · rw [if_neg h1, if_neg h1]
        by_cases h2 : t < i
        · exact hA.prev t h2
        · refine ⟨Or.inr (hws t (by omega) ht), fun h => ?_⟩
          rw [hA.next t (by omega)] at h
          cases h.1
    · unfold upd
      rw [if_neg (by omega)]
      exact hA.next t (by omega)
  have hkind : ∀ (s u : St) (k : Nat), BlkN src s u k → k = 0 ∨ k = 1 ∨ k = 2 := by
    intro s u k h
    induction h with
    | eof _ => exact Or.inr (Or.inr rfl)
    | nl _ => exact Or.inl rfl
    | shut _ _ => exact Or.inr (Or.inl rfl)
    | step _ _ _ _ ih => exact ih
  have heof : ∀ (s u : St), BlkN src s u 2 → u.ch < 0 := by
    intro s u h
    generalize hk : 2 = k at h
    induction h with
    | eof h => exact h
    | nl _ => cases hk
    | shut _ _ => cases hk
    | step _ _ _ _ ih => exact ih hk
  have hskeof : ∀ (u v : St), u.ch < 0 → SkipR src u v → v = u := by
    intro u v hu hs
    refine hs.same ?_
    apply decide_eq_false
    omega
  induction h with
  | @slash s h47 =>
    intro i S0 D0 S D b' hg hse ho hA ha
    have hx := (hnext s i 47 hg ho (by decide)).1 h47
    rw [hA.stop (fun h => by have := h.2.2; omega) ha]
    exact decide_eq_true hx
  | @other s h47 h42 =>
    intro i S0 D0 S D b' hg hse ho hA ha
    rw [hA.stop (fun h => h42 ((hnext s i 42 hg ho (by decide)).2 ⟨h.1, h.2.2⟩)) ha]
    exact decide_eq_false (fun h => h47 ((hnext s i 47 hg ho (by decide)).2 h))
  | @line s u h42 hB =>
    intro i S0 D0 S D b' hg hse ho hA ha
    exact hbad s u 0 i S0 D0 S D b' hg h42 ho hA hB (by decide) ha
  | @endT s u v k h42 hB hk0 hsk hv =>
    intro i S0 D0 S D b' hg hse ho hA ha
    rcases hkind _ _ _ hB with rfl | rfl | rfl
    · exact absurd rfl hk0
    · obtain ⟨e, e1, e2, e3, e4, e5, e6⟩ := hclosed s u i S0 D0 S D hg h42 ho hse hA hB
      obtain ⟨g, g1, g2, g3, g4, g5, g6, g7, g8⟩ := hafter u v e i S0 D0 S D e1 e2 e3 e4 e5 hA e6 hsk
      rcases hv with hv | hv
      · have hgl : g = l.length := by
          rcases g3 with ⟨a1, a2, a3⟩ | ⟨a1, a2, a3⟩
          · omega
          · omega
        have hk := g6.keep
        rw [ans_at ha g (fun t ht => by rw [(hk t ht).1, (hk t ht).2]; exact g7 t ht) g1 (fun h => by omega)]
        exact decide_eq_true (Or.inl hgl)
      · have h10 := (g3.ascii 10 (by decide)).1 hv
        rw [g2, hsrc] at h10
        have hlt : g < l.length := by omega
        have hk : ∀ t, t < g + 1 → S t = upd S0 i e true t ∧ D t = upd D0 i e false t := by
          cases g6 with
          | done hl => omega
          | skip _ _ hr => exact hr.keep
          | span ho _ _ _ => have := ho.2.1; omega
        rw [ans_at ha g (fun t ht => by rw [(hk t (by omega)).1, (hk t (by omega)).2]; exact g7 t ht) g1 (fun _ => ⟨by rw [(hk g (by omega)).1]; exact g8 g (Nat.le_refl _), by unfold wsB; omega⟩)]
        exact decide_eq_true (Or.inr (Or.inl h10.2))
    · exact hbad s u 2 i S0 D0 S D b' hg h42 ho hA hB (by decide) ha
  | @stopF s u v k h42 hB hk0 hsk hv0 hv10 hv47 =>
    intro i S0 D0 S D b' hg hse ho hA ha
    rcases hkind _ _ _ hB with rfl | rfl | rfl
    · exact absurd rfl hk0
    · obtain ⟨e, e1, e2, e3, e4, e5, e6⟩ := hclosed s u i S0 D0 S D hg h42 ho hse hA hB
      obtain ⟨g, g1, g2, g3, g4, g5, g6, g7, g8⟩ := hafter u v e i S0 D0 S D e1 e2 e3 e4 e5 hA e6 hsk
      have hlt : g < l.length := by
        rcases g3 with ⟨a1, a2, a3⟩ | ⟨a1, a2, a3⟩
        · omega
        · omega
      have hn10 : bt l g ≠ 10 := fun h => hv10 ((g3.ascii 10 (by decide)).2 ⟨by omega, by rw [g2, hsrc]; exact h⟩)
      have hn47 : bt l g ≠ 47 := fun h => hv47 ((g3.ascii 47 (by decide)).2 ⟨by omega, by rw [g2, hsrc]; exact h⟩)
      have hnws : ¬ wsB (bt l g) := by
        intro h
        refine absurd ?_ (of_decide_eq_false g5)
        rcases h with h | h | h
        · exact Or.inl ((g3.ascii 32 (by decide)).2 ⟨by omega, by rw [g2, hsrc]; exact h⟩)
        · exact Or.inr (Or.inl ((g3.ascii 9 (by decide)).2 ⟨by omega, by rw [g2, hsrc]; exact h⟩))
        · exact Or.inr (Or.inr (Or.inr ((g3.ascii 13 (by decide)).2 ⟨by omega, by rw [g2, hsrc]; exact h⟩)))
      have hk : ∀ t, t < g + 1 → S t = upd S0 i e true t ∧ D t = upd D0 i e false t := by
        cases g6 with
        | done hl => omega
        | skip _ _ hr => exact hr.keep
        | span ho _ _ _ => have := ho.2.1; omega
      rw [ans_at ha g (fun t ht => by rw [(hk t (by omega)).1, (hk t (by omega)).2]; exact g7 t ht) g1 (fun _ => ⟨by rw [(hk g (by omega)).1]; exact g8 g (Nat.le_refl _), hnws⟩)]
      exact decide_eq_false (by rintro (h | h | h); omega; exact hn10 h; exact hn47 h.2.1)
    · have := hskeof u v (heof _ _ hB) hsk
      have h2 := heof _ _ hB
      rw [this] at hv0
      omega
  | @more s u v z k b h42 hB hk0 hsk hv47 hr ih =>
    intro i S0 D0 S D b' hg hse ho hA ha
    rcases hkind _ _ _ hB with rfl | rfl | rfl
    · exact absurd rfl hk0
    · obtain ⟨e, e1, e2, e3, e4, e5, e6⟩ := hclosed s u i S0 D0 S D hg h42 ho hse hA hB
      obtain ⟨g, g1, g2, g3, g4, g5, g6, g7, g8⟩ := hafter u v e i S0 D0 S D e1 e2 e3 e4 e5 hA e6 hsk
      have h47 := (g3.ascii 47 (by decide)).1 hv47
      obtain ⟨n1, n2, n3, _, _⟩ := nx_ascii g3 h47.1 (by omega)
      exact ih g _ _ S D b' n3 ((nx_semi src v).trans g4) (by omega) ⟨g6, g7, g8, by omega, by rw [← hsrc, ← g2]; exact h47.2⟩ ha
    · have := hskeof u v (heof _ _ hB) hsk
      have h2 := heof _ _ hB
      rw [this] at hv47
      omega
end
end Go.Proofs.YthhmkkpginddbaaFmt
