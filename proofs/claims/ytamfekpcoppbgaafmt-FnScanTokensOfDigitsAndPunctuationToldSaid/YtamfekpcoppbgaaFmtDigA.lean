/-
  The small language of numbers, blanks and ( ) , ; : one token of the law's own model, and that Scan reads the same. No program in sight; no conditions.
  The law's own questions about bytes and kinds. Conditions: as stated.
  append of one value onto an owned row, with the block that the row then has. No conditions.
-/
import Derived.Test.YtamfekpcoppbgaaFmtSnX
import Derived.Test.YtamfekpcoppbgaaFmtMkS96
import Derived.Test.YtamfekpcoppbgaaFmtLit96
import Derived.Maps.AppendAt
namespace Go.Proofs.YtamfekpcoppbgaaFmt
open Go.RowKit
set_option maxRecDepth 100000
set_option linter.unusedVariables false

def dgB (c : Nat) : Bool := decide (48 ≤ c ∧ c ≤ 57)
def dpB (c : Nat) : Bool := decide ((48 ≤ c ∧ c ≤ 57) ∨ c = 32 ∨ c = 9 ∨ c = 13 ∨ c = 10 ∨ c = 40 ∨ c = 41 ∨ c = 44 ∨ c = 59)
def blB (ins : Bool) (c : Nat) : Bool := decide (c = 32 ∨ c = 9 ∨ c = 13 ∨ (c = 10 ∧ ins = false))
def DpS (src : List UInt8) : Prop := ∀ i, i < src.length → dpB (bt src i) = true
/-- from i to p every byte is in P; p is the end or the first that is not -/
structure RunTo (src : List UInt8) (P : Nat → Bool) (i p : Nat) : Prop where
  lo : i ≤ p
  hi : p ≤ src.length
  all : ∀ q, i ≤ q → q < p → P (bt src q) = true
  stop : p < src.length → P (bt src p) = false
variable {src : List UInt8}
theorem RunTo.det {P : Nat → Bool} {i p q : Nat} (h : RunTo src P i p) (k : RunTo src P i q) : p = q := by
  have h1 := h.lo; have h2 := h.hi; have k1 := k.lo; have k2 := k.hi
  rcases Nat.lt_trichotomy p q with hc | hc | hc
  · have e1 := h.stop (by omega)
    have e2 := k.all p h1 hc
    rw [e1] at e2
    cases e2
  · exact hc
  · have e1 := k.stop (by omega)
    have e2 := h.all q k1 hc
    rw [e1] at e2
    cases e2
theorem RunTo.here {P : Nat → Bool} {i : Nat} (hi : i ≤ src.length) (h : i < src.length → P (bt src i) = false) : RunTo src P i i := ⟨Nat.le_refl _, hi, fun q h1 h2 => by omega, h⟩
theorem RunTo.cons {P : Nat → Bool} {i p : Nat} (h0 : P (bt src i) = true) (h : RunTo src P (i + 1) p) : RunTo src P i p := by
  have := h.lo
  refine ⟨by omega, h.hi, fun q h1 h2 => ?_, h.stop⟩
  rcases Nat.eq_or_lt_of_le h1 with rfl | h3
  · exact h0
  · exact h.all q h3 h2
/-- one token of the model: kind, literal, place, where it goes on, the flag behind it -/
inductive MTok (src : List UInt8) (i : Nat) (ins : Bool) : Nat → List UInt8 → Nat → Nat → Bool → Prop
  | semiE : RunTo src (blB ins) i src.length → ins = true → MTok src i ins 1 [10] src.length src.length false
  | eof : RunTo src (blB ins) i src.length → ins = false → MTok src i ins 5 [] src.length src.length false
  | nl {p : Nat} : RunTo src (blB ins) i p → p < src.length → bt src p = 10 → MTok src i ins 1 [10] p (p + 1) false
  | num {p q : Nat} : RunTo src (blB ins) i p → p < src.length → dgB (bt src p) = true → RunTo src dgB p q → MTok src i ins 0 (cut src p q) p q true
  | lp {p : Nat} : RunTo src (blB ins) i p → p < src.length → bt src p = 40 → MTok src i ins 2 [] p (p + 1) false
  | rp {p : Nat} : RunTo src (blB ins) i p → p < src.length → bt src p = 41 → MTok src i ins 3 [] p (p + 1) true
  | co {p : Nat} : RunTo src (blB ins) i p → p < src.length → bt src p = 44 → MTok src i ins 4 [] p (p + 1) false
  | se {p : Nat} : RunTo src (blB ins) i p → p < src.length → bt src p = 59 → MTok src i ins 1 [59] p (p + 1) false
/-- which arm of the model -/
structure MT (src : List UInt8) (i : Nat) (ins : Bool) (k : Nat) (l : List UInt8) (o j : Nat) (b : Bool) (p : Nat) : Prop where
  run : RunTo src (blB ins) i p
  o : o = p
  e1 : p = src.length → ins = true → k = 1 ∧ l = [10] ∧ j = src.length ∧ b = false
  e2 : p = src.length → ins = false → k = 5 ∧ l = [] ∧ j = src.length ∧ b = false
  e3 : p < src.length → bt src p = 10 → k = 1 ∧ l = [10] ∧ j = p + 1 ∧ b = false
  e4 : p < src.length → dgB (bt src p) = true → ∃ q, RunTo src dgB p q ∧ k = 0 ∧ l = cut src p q ∧ j = q ∧ b = true
  e5 : p < src.length → bt src p = 40 → k = 2 ∧ l = [] ∧ j = p + 1 ∧ b = false
  e6 : p < src.length → bt src p = 41 → k = 3 ∧ l = [] ∧ j = p + 1 ∧ b = true
  e7 : p < src.length → bt src p = 44 → k = 4 ∧ l = [] ∧ j = p + 1 ∧ b = false
  e8 : p < src.length → bt src p = 59 → k = 1 ∧ l = [59] ∧ j = p + 1 ∧ b = false
  cases : (p = src.length ∧ (ins = true ∨ ins = false)) ∨ (p < src.length ∧ (bt src p = 10 ∨ dgB (bt src p) = true ∨ bt src p = 40 ∨ bt src p = 41 ∨ bt src p = 44 ∨ bt src p = 59))
theorem dgB_lt {c : Nat} (h : dgB c = true) : 48 ≤ c ∧ c ≤ 57 := of_decide_eq_true h
theorem MTok.mt {i : Nat} {ins : Bool} {k : Nat} {l : List UInt8} {o j : Nat} {b : Bool} (h : MTok src i ins k l o j b) : ∃ p, MT src i ins k l o j b p := by
  cases h with
  | semiE h1 h2 =>
    refine ⟨src.length, h1, rfl, fun _ _ => ⟨rfl, rfl, rfl, rfl⟩, fun _ h => ?_, fun h => ?_, fun h => ?_, fun h => ?_, fun h => ?_, fun h => ?_, fun h => ?_, Or.inl ⟨rfl, Or.inl h2⟩⟩
    · rw [h2] at h; cases h
    all_goals omega
  | eof h1 h2 =>
    refine ⟨src.length, h1, rfl, fun _ h => ?_, fun _ _ => ⟨rfl, rfl, rfl, rfl⟩, fun h => ?_, fun h => ?_, fun h => ?_, fun h => ?_, fun h => ?_, fun h => ?_, Or.inl ⟨rfl, Or.inr h2⟩⟩
    · rw [h2] at h; cases h
    all_goals omega
  | nl h1 h2 h3 =>
    refine ⟨o, h1, rfl, fun h => ?_, fun h => ?_, fun _ _ => ⟨rfl, rfl, rfl, rfl⟩, fun _ h => ?_, fun _ h => ?_, fun _ h => ?_, fun _ h => ?_, fun _ h => ?_, Or.inr ⟨h2, by simp [h3]⟩⟩
    all_goals first | omega | (have := dgB_lt h; omega)
  | num h1 h2 h3 h4 =>
    have h5 := dgB_lt h3
    refine ⟨o, h1, rfl, fun h => ?_, fun h => ?_, fun _ h => ?_, fun _ h => ⟨j, h4, rfl, rfl, rfl, rfl⟩, fun _ h => ?_, fun _ h => ?_, fun _ h => ?_, fun _ h => ?_, Or.inr ⟨h2, by simp [h3]⟩⟩
    all_goals omega
  | lp h1 h2 h3 =>
    refine ⟨o, h1, rfl, fun h => ?_, fun h => ?_, fun _ h => ?_, fun _ h => ?_, fun _ h => ⟨rfl, rfl, rfl, rfl⟩, fun _ h => ?_, fun _ h => ?_, fun _ h => ?_, Or.inr ⟨h2, by simp [h3]⟩⟩
    all_goals first | omega | (have := dgB_lt h; omega)
  | rp h1 h2 h3 =>
    refine ⟨o, h1, rfl, fun h => ?_, fun h => ?_, fun _ h => ?_, fun _ h => ?_, fun _ h => ?_, fun _ h => ⟨rfl, rfl, rfl, rfl⟩, fun _ h => ?_, fun _ h => ?_, Or.inr ⟨h2, by simp [h3]⟩⟩
    all_goals first | omega | (have := dgB_lt h; omega)
  | co h1 h2 h3 =>
    refine ⟨o, h1, rfl, fun h => ?_, fun h => ?_, fun _ h => ?_, fun _ h => ?_, fun _ h => ?_, fun _ h => ?_, fun _ h => ⟨rfl, rfl, rfl, rfl⟩, fun _ h => ?_, Or.inr ⟨h2, by simp [h3]⟩⟩
    all_goals first | omega | (have := dgB_lt h; omega)
  | se h1 h2 h3 =>
    refine ⟨o, h1, rfl, fun h => ?_, fun h => ?_, fun _ h => ?_, fun _ h => ?_, fun _ h => ?_, fun _ h => ?_, fun _ h => ?_, fun _ h => ⟨rfl, rfl, rfl, rfl⟩, Or.inr ⟨h2, by simp [h3]⟩⟩
    all_goals first | omega | (have := dgB_lt h; omega)
theorem MTok.det {i : Nat} {ins : Bool} {k k' : Nat} {l l' : List UInt8} {o j o' j' : Nat} {b b' : Bool} (h : MTok src i ins k l o j b) (g : MTok src i ins k' l' o' j' b') : k = k' ∧ l = l' ∧ o = o' ∧ j = j' ∧ b = b' := by
  obtain ⟨p, h⟩ := h.mt
  obtain ⟨p', g⟩ := g.mt
  obtain rfl := h.run.det g.run
  have ho := h.o; have go := g.o
  rcases h.cases with ⟨c, c2 | c2⟩ | ⟨c, c2 | c2 | c2 | c2 | c2 | c2⟩
  · have a := h.e1 c c2; have b := g.e1 c c2
    exact ⟨a.1.trans b.1.symm, a.2.1.trans b.2.1.symm, ho.trans go.symm, a.2.2.1.trans b.2.2.1.symm, a.2.2.2.trans b.2.2.2.symm⟩
  · have a := h.e2 c c2; have b := g.e2 c c2
    exact ⟨a.1.trans b.1.symm, a.2.1.trans b.2.1.symm, ho.trans go.symm, a.2.2.1.trans b.2.2.1.symm, a.2.2.2.trans b.2.2.2.symm⟩
  · have a := h.e3 c c2; have b := g.e3 c c2
    exact ⟨a.1.trans b.1.symm, a.2.1.trans b.2.1.symm, ho.trans go.symm, a.2.2.1.trans b.2.2.1.symm, a.2.2.2.trans b.2.2.2.symm⟩
  · obtain ⟨q, r, a⟩ := h.e4 c c2
    obtain ⟨q', r', b⟩ := g.e4 c c2
    obtain rfl := r.det r'
    exact ⟨a.1.trans b.1.symm, a.2.1.trans b.2.1.symm, ho.trans go.symm, a.2.2.1.trans b.2.2.1.symm, a.2.2.2.trans b.2.2.2.symm⟩
  · have a := h.e5 c c2; have b := g.e5 c c2
    exact ⟨a.1.trans b.1.symm, a.2.1.trans b.2.1.symm, ho.trans go.symm, a.2.2.1.trans b.2.2.1.symm, a.2.2.2.trans b.2.2.2.symm⟩
  · have a := h.e6 c c2; have b := g.e6 c c2
    exact ⟨a.1.trans b.1.symm, a.2.1.trans b.2.1.symm, ho.trans go.symm, a.2.2.1.trans b.2.2.1.symm, a.2.2.2.trans b.2.2.2.symm⟩
  · have a := h.e7 c c2; have b := g.e7 c c2
    exact ⟨a.1.trans b.1.symm, a.2.1.trans b.2.1.symm, ho.trans go.symm, a.2.2.1.trans b.2.2.1.symm, a.2.2.2.trans b.2.2.2.symm⟩
  · have a := h.e8 c c2; have b := g.e8 c c2
    exact ⟨a.1.trans b.1.symm, a.2.1.trans b.2.1.symm, ho.trans go.symm, a.2.2.1.trans b.2.2.1.symm, a.2.2.2.trans b.2.2.2.symm⟩
/-! the scanner over such a source -/
theorem dpB_lt {c : Nat} (h : dpB c = true) : (48 ≤ c ∧ c ≤ 57) ∨ c = 32 ∨ c = 9 ∨ c = 13 ∨ c = 10 ∨ c = 40 ∨ c = 41 ∨ c = 44 ∨ c = 59 := of_decide_eq_true h
theorem dp_bad (hD : DpS src) (i : Nat) (h : i < src.length) : badc src i = false := by
  have hb := dpB_lt (hD i h)
  have e := (rn_facts src i h).2.2.2.2.2 (by omega)
  unfold badc
  rw [e]
  exact decide_eq_false (by simp only; omega)
theorem dp_ch (hD : DpS src) {t : St} (hg : Good src t) : (t.ch = -1 ∧ t.off = src.length) ∨ (t.off < src.length ∧ dpB (bt src t.off) = true ∧ t.ch = (bt src t.off : Int) ∧ t.rd = t.off + 1) := by
  rcases hg with ⟨h1, h2, h3⟩ | ⟨h1, _, h3⟩
  · right
    have hb := dpB_lt (hD _ h1)
    have e := (rn_facts src t.off h1).2.2.2.2.2 (by omega)
    rw [e] at h2 h3
    exact ⟨h1, hD _ h1, h3, h2⟩
  · exact Or.inl ⟨h3, h1⟩
theorem dp_ec (hD : DpS src) (t : St) : (nx src t).ec = t.ec := by
  unfold nx
  by_cases hr : t.rd < src.length
  · rw [if_pos hr]
    show t.ec + (if badc src t.rd = true then 1 else 0) = t.ec
    rw [dp_bad hD _ hr]
    rfl
  · rw [if_neg hr]
    rfl
theorem dp_nx (hD : DpS src) {t : St} (hg : Good src t) (h : t.off < src.length) : (nx src t).off = t.off + 1 ∧ Good src (nx src t) := by
  have hgn := nx_good src t hg.le.2.1
  rcases dp_ch hD hg with ⟨_, h1⟩ | ⟨_, _, _, h2⟩
  · omega
  · refine ⟨?_, hgn⟩
    unfold nx
    by_cases hr : t.rd < src.length
    · rw [if_pos hr]
      exact h2
    · rw [if_neg hr]
      show src.length = _
      omega
/-- what every state of the walk keeps -/
structure Dpk (src : List UInt8) (m : Int) (s : St) : Prop where
  good : Good src s
  ec : s.ec = 0
  mode : s.mode = m
theorem Dpk.nx (hD : DpS src) {m : Int} {s : St} (h : Dpk src m s) : Dpk src m (nx src s) := ⟨nx_good src s h.good.le.2.1, by rw [dp_ec hD]; exact h.ec, (nx_mode src s).trans h.mode⟩
theorem dp_wsp (hD : DpS src) {s : St} (hg : Good src s) : wsp s = true ↔ (s.off < src.length ∧ blB s.semi (bt src s.off) = true) := by
  unfold wsp blB
  rw [decide_eq_true_iff, decide_eq_true_iff]
  rcases dp_ch hD hg with ⟨h1, h2⟩ | ⟨h1, h2, h3, _⟩
  · constructor
    · intro h; omega
    · rintro ⟨h, _⟩; omega
  · have := dpB_lt h2
    constructor
    · intro h
      refine ⟨h1, ?_⟩
      rcases h with h | h | ⟨h, h4⟩ | h
      · left; omega
      · right; left; omega
      · right; right; right; exact ⟨by omega, h4⟩
      · right; right; left; omega
    · rintro ⟨_, h⟩
      rcases h with h | h | h | ⟨h, h4⟩
      · left; omega
      · right; left; omega
      · right; right; right; omega
      · right; right; left; exact ⟨by omega, h4⟩
theorem dp_skip (hD : DpS src) {m : Int} {s t : St} (h : SkipR src s t) : Dpk src m s → Dpk src m t ∧ RunTo src (blB s.semi) s.off t.off ∧ t.semi = s.semi := by
  induction h with
  | @stop s h1 =>
    intro hk
    refine ⟨hk, RunTo.here hk.good.le.2.2 (fun hlt => ?_), rfl⟩
    rcases hb : blB s.semi (bt src s.off) with _ | _
    · rfl
    · rw [(dp_wsp hD hk.good).2 ⟨hlt, hb⟩] at h1
      cases h1
  | @step s t h1 _ ih =>
    intro hk
    have hw := (dp_wsp hD hk.good).1 h1
    have hn := dp_nx hD hk.good hw.1
    obtain ⟨a, b, c⟩ := ih (hk.nx hD)
    rw [nx_semi] at b c
    rw [hn.1] at b
    exact ⟨a, b.cons hw.2, c⟩
theorem dg10 {c : Nat} (h : dpB c = true) : dg 10 (c : Int) = dgB c := by
  have := dpB_lt h
  unfold dg dgB dv
  by_cases hc : 48 ≤ c ∧ c ≤ 57
  · rw [decide_eq_true hc]
    exact decide_eq_true (Or.inr (by rw [if_pos ⟨by omega, by omega⟩]; omega))
  · rw [decide_eq_false hc]
    refine decide_eq_false ?_
    rw [if_neg (by omega), if_neg (by omega), if_neg (by omega)]
    omega
theorem dp_dig (hD : DpS src) {m : Int} {s t : St} (h : DigR src 10 s t) : Dpk src m s → Dpk src m t ∧ RunTo src dgB s.off t.off ∧ t.semi = s.semi := by
  induction h with
  | @stop s h1 =>
    intro hk
    refine ⟨hk, RunTo.here hk.good.le.2.2 (fun hlt => ?_), rfl⟩
    rcases dp_ch hD hk.good with ⟨_, h2⟩ | ⟨_, h3, h4, _⟩
    · omega
    · rw [h4, dg10 h3] at h1
      exact h1
  | @step s t h1 _ ih =>
    intro hk
    have hlt : s.off < src.length ∧ dgB (bt src s.off) = true := by
      rcases dp_ch hD hk.good with ⟨h2, _⟩ | ⟨h2, h3, h4, _⟩
      · rw [h2] at h1; exact absurd h1 (by decide)
      · rw [h4, dg10 h3] at h1
        exact ⟨h2, h1⟩
    have hn := dp_nx hD hk.good hlt.1
    obtain ⟨a, b, c⟩ := ih (hk.nx hD)
    rw [nx_semi] at c
    rw [hn.1] at b
    exact ⟨a, b.cons hlt.2, c⟩
theorem dp_lw : ∀ c : Fin 256, (dpB c.val = true ∨ c.val = 0) → lw c.val ≠ 98 ∧ lw c.val ≠ 111 ∧ lw c.val ≠ 120 := by decide +kernel
theorem dp_byte (hD : DpS src) (i : Nat) : dpB (bt src i) = true ∨ bt src i = 0 := by
  rcases Nat.lt_or_ge i src.length with h | h
  · exact Or.inl (hD i h)
  · right
    unfold bt
    simp [List.getD, List.getElem?_eq_none h]
theorem dp_num (hD : DpS src) {m : Int} {s t : St} {k : Int} (h : NumR src s k t) (hk : Dpk src m s) : k = 5 ∧ Dpk src m t ∧ RunTo src dgB s.off t.off := by
  obtain ⟨a, b, p, q, h1, h2, h3, rfl⟩ := h
  have hB : numB src s = 10 := by
    have hl := dp_lw ⟨bt src s.rd, bt_lt _ _⟩ (dp_byte hD s.rd)
    simp only at hl
    rcases numB_cases src s with ⟨h, _⟩ | ⟨_, _, h⟩ | ⟨_, _, h⟩ | ⟨_, _, h⟩
    · exact h
    · exact absurd h hl.1
    · exact absurd h hl.2.1
    · exact absurd h hl.2.2
  unfold numS at h1
  rw [if_pos hB, hB] at h1
  obtain ⟨ka, ra, _⟩ := dp_dig hD h1 hk
  have no : ∀ {z : St}, Dpk src m z → z.ch ≠ 46 ∧ z.ch ≠ 101 ∧ z.ch ≠ 69 ∧ z.ch ≠ 112 ∧ z.ch ≠ 80 := by
    intro z hz
    rcases dp_ch hD hz.good with ⟨h, _⟩ | ⟨_, h5, h, _⟩
    · omega
    · have := dpB_lt h5
      omega
  cases h2 with
  | yes hf _ => exact absurd (of_decide_eq_true hf).1 (no ka).1
  | no _ =>
    cases h3 with
    | yes hf _ =>
      have := of_decide_eq_true hf
      have := no ka
      omega
    | no _ => exact ⟨rfl, ka, ra⟩
theorem dp_fin {m : Int} (hm : m = 0) {s : St} (h : Dpk src m s) (b : Bool) : fin b s = { s with semi := b } := by
  unfold fin
  rw [if_pos (by rw [h.mode, hm]; decide)]
theorem dp_notL {c : Nat} (h : dpB c = true) : isLetterG (c : Int) = false := by
  have hd := dpB_lt h
  unfold isLetterG
  have e1 : decide (128 ≤ (c : Int)) = false := decide_eq_false (by omega)
  rw [e1, Bool.false_and, Bool.or_false]
  exact (show ∀ z : Fin 64, asciiLetter (z.val : Int) = false by decide +kernel) ⟨c, by omega⟩
def tokOf (k : Nat) : Int := if k = 0 then 5 else if k = 1 then 55 else if k = 2 then 47 else if k = 3 then 52 else if k = 4 then 50 else 1
/-- one call of Scan is one token of the model -/
theorem scan_dp (hD : DpS src) {s v : St} {k : Int} {l : List UInt8} {o : Nat} (h : ScanR src s k l o v) (hk : Dpk src 0 s) : ∃ (n j : Nat) (b : Bool), MTok src s.off s.semi n l o j b ∧ k = tokOf n ∧ v.off = j ∧ v.semi = b ∧ Dpk src 0 v := by
  cases h with
  | @com _ t x u _ _ _ _ _ h1 h2 h3 hx h4 hr h5 =>
    exfalso
    obtain ⟨ht, _, _⟩ := dp_skip hD h1 hk
    rcases dp_ch hD ht.good with ⟨h, _⟩ | ⟨_, h5, h, _⟩
    · omega
    · have := dpB_lt h5
      omega
  | @tok _ t _ _ _ h1 h2 =>
    have hst := h1.stopped
    obtain ⟨ht, hr, hse⟩ := dp_skip hD h1 hk
    have fin0 : ∀ {u : St} {b : Bool}, Dpk src 0 u → (fin b u).off = u.off ∧ (fin b u).semi = b ∧ Dpk src 0 (fin b u) := by
      intro u b hu
      rw [dp_fin rfl hu]
      exact ⟨rfl, rfl, ⟨hu.good, hu.ec, hu.mode⟩⟩
    have inl : t.ch = -1 ∨ (t.off < src.length ∧ dpB (bt src t.off) = true ∧ t.ch = (bt src t.off : Int)) := by
      rcases dp_ch hD ht.good with ⟨h, _⟩ | ⟨h3, h4, h5, _⟩
      · exact Or.inl h
      · exact Or.inr ⟨h3, h4, h5⟩
    have hrng : t.ch = -1 ∨ (48 ≤ t.ch ∧ t.ch ≤ 57) ∨ t.ch = 32 ∨ t.ch = 9 ∨ t.ch = 13 ∨ t.ch = 10 ∨ t.ch = 40 ∨ t.ch = 41 ∨ t.ch = 44 ∨ t.ch = 59 := by
      rcases inl with h | ⟨_, h4, h5⟩
      · exact Or.inl h
      · have := dpB_lt h4
        omega
    have hwf : ¬ (t.ch = 32 ∨ t.ch = 9 ∨ (t.ch = 10 ∧ t.semi = false) ∨ t.ch = 13) := of_decide_eq_false hst
    have endp : t.ch = -1 → t.off = src.length := by
      intro h
      rcases dp_ch hD ht.good with ⟨_, h2⟩ | ⟨_, _, h3, _⟩
      · exact h2
      · omega
    have mid : ∀ c : Nat, t.ch = (c : Int) → t.off < src.length ∧ bt src t.off = c ∧ (nx src t).off = t.off + 1 := by
      intro c hc
      rcases inl with h | ⟨h3, _, h5⟩
      · omega
      · exact ⟨h3, by omega, (dp_nx hD ht.good h3).1⟩
    have kn := ht.nx hD
    cases h2 with
    | ident hL _ =>
      exfalso
      rcases inl with h | ⟨_, h4, h5⟩
      · rw [h] at hL; exact absurd hL (by decide)
      · rw [h5, dp_notL h4] at hL; cases hL
    | @num u _ hL hn hN =>
      obtain ⟨rfl, hu, ru⟩ := dp_num hD hN ht
      have hc := of_decide_eq_true hn
      have hd : 48 ≤ t.ch ∧ t.ch ≤ 57 := by omega
      obtain ⟨m1, m2, _⟩ := mid t.ch.toNat (by omega)
      have f := fin0 (b := true) hu
      exact ⟨0, u.off, true, MTok.num hr m1 (decide_eq_true (by omega)) ru, rfl, f.1, f.2.1, f.2.2⟩
    | eofS h3 h4 =>
      have he := endp h3
      rw [he] at hr ⊢
      refine ⟨1, src.length, false, MTok.semiE hr (by rw [← hse]; exact h4), rfl, ?_, rfl, ⟨kn.good, kn.ec, kn.mode⟩⟩
      exact (nx_eof ht.good h3).2.2
    | eof h3 h4 =>
      have he := endp h3
      have f := fin0 (b := false) kn
      rw [he] at hr ⊢
      exact ⟨5, src.length, false, MTok.eof hr (by rw [← hse]; exact h4), rfl, f.1.trans (nx_eof ht.good h3).2.2, f.2.1, f.2.2⟩
    | nl h3 =>
      obtain ⟨m1, m2, m3⟩ := mid 10 h3
      exact ⟨1, t.off + 1, false, MTok.nl hr m1 m2, rfl, m3, rfl, ⟨kn.good, kn.ec, kn.mode⟩⟩
    | str h3 => omega
    | chr h3 => omega
    | raw h3 => omega
    | comS h3 => omega
    | comT h3 => omega
    | @sym u _ l b hL hn hs =>
      have hnd : ¬ (48 ≤ t.ch ∧ t.ch ≤ 57) := fun h => of_decide_eq_false hn (Or.inl h)
      have hm1 : t.ch ≠ -1 := by intro e; unfold symT at hs; simp [e] at hs
      have h10 : t.ch ≠ 10 := by intro e; unfold symT at hs; simp [e] at hs
      have hc : t.ch = 40 ∨ t.ch = 41 ∨ t.ch = 44 ∨ t.ch = 59 := by omega
      rcases hc with hc | hc | hc | hc
      · obtain ⟨m1, m2, m3⟩ := mid 40 hc
        unfold symT at hs
        simp [hc] at hs
        obtain ⟨rfl, rfl, rfl, rfl⟩ := hs
        have f := fin0 (b := false) kn
        exact ⟨2, t.off + 1, false, MTok.lp hr m1 m2, rfl, f.1.trans m3, f.2.1, f.2.2⟩
      · obtain ⟨m1, m2, m3⟩ := mid 41 hc
        unfold symT at hs
        simp [hc] at hs
        obtain ⟨rfl, rfl, rfl, rfl⟩ := hs
        have f := fin0 (b := true) kn
        exact ⟨3, t.off + 1, true, MTok.rp hr m1 m2, rfl, f.1.trans m3, f.2.1, f.2.2⟩
      · obtain ⟨m1, m2, m3⟩ := mid 44 hc
        unfold symT at hs
        simp [hc] at hs
        obtain ⟨rfl, rfl, rfl, rfl⟩ := hs
        have f := fin0 (b := false) kn
        exact ⟨4, t.off + 1, false, MTok.co hr m1 m2, rfl, f.1.trans m3, f.2.1, f.2.2⟩
      · obtain ⟨m1, m2, m3⟩ := mid 59 hc
        unfold symT at hs
        simp [hc] at hs
        obtain ⟨rfl, rfl, rfl, rfl⟩ := hs
        have f := fin0 (b := false) kn
        exact ⟨1, t.off + 1, false, MTok.se hr m1 m2, rfl, f.1.trans m3, f.2.1, f.2.2⟩
    | ill hL hn ho =>
      exfalso
      have h3 := of_decide_eq_true ho
      have hnd : ¬ (48 ≤ t.ch ∧ t.ch ≤ 57) := fun h => of_decide_eq_false hn (Or.inl h)
      omega
/-- the model's whole list -/
inductive MAll (src : List UInt8) : Nat → Bool → List (Nat × List UInt8 × Nat) → Prop
  | last {i : Nat} {ins : Bool} {l : List UInt8} {o j : Nat} {b : Bool} : MTok src i ins 5 l o j b → MAll src i ins [(5, l, o)]
  | more {i : Nat} {ins : Bool} {k : Nat} {l : List UInt8} {o j : Nat} {b : Bool} {T : List (Nat × List UInt8 × Nat)} : MTok src i ins k l o j b → k ≠ 5 → MAll src j b T → MAll src i ins ((k, l, o) :: T)
end Go.Proofs.YtamfekpcoppbgaaFmt
namespace Go.Proofs.YtamfekpcoppbgaaFmt
open Go.RowKit
set_option maxRecDepth 100000
set_option linter.unusedVariables false

theorem zzisd_any (c : Nat) (w : World) : Calls Tryf.prog 49 #[.int .u8 (c : Int)] w fun e w' => e = .returned (.bool (dgB c)) ∧ w = w' := by
  by_cases h1 : 48 ≤ c
  · have t1 : decide ((c : Int) ≥ 48) = true := decide_eq_true (by omega)
    have e1 : dgB c = decide ((c : Int) ≤ 57) := by
      unfold dgB
      exact decide_eq_decide.2 (by omega)
    rw [e1]
    clear e1
    go_enter Tryf.func49, Tryf.ntmps49
    go_wp2
    go_ret
    exact ⟨rfl, rfl⟩
  · have t1 : decide ((c : Int) ≥ 48) = false := decide_eq_false (by omega)
    have e1 : dgB c = false := decide_eq_false (by omega)
    rw [e1]
    clear e1
    go_enter Tryf.func49, Tryf.ntmps49
    go_wp2
    go_ret
    exact ⟨rfl, rfl⟩
theorem zztok_any (n : Nat) (hn : n ≤ 5) (w : World) : Calls Tryf.prog 16 #[.int .i64 (n : Int)] w fun e w' => e = .returned (.int .i64 (tokOf n)) ∧ w = w' := by
  have hc : n = 0 ∨ n = 1 ∨ n = 2 ∨ n = 3 ∨ n = 4 ∨ n = 5 := by omega
  rcases hc with rfl | rfl | rfl | rfl | rfl | rfl
  all_goals
    go_enter Tryf.func16, Tryf.ntmps16
    go_wp2
    go_ret
    exact ⟨rfl, rfl⟩
set_option maxHeartbeats 4000000 in
theorem zzodp_any (oA : Option Addr) (cap : Nat) (src : List UInt8) (w : World) (hsrc : SrcAt w w.heap.size oA src) (hn : src.length ≤ 1048576) :
    Calls Tryf.prog 14 #[.slice oA src.length cap] w fun e w' => ∃ b, e = .returned (.bool b) ∧ (b = true → DpS src) ∧ w = w' := by
  have HS := Lib.hid hsrc
  clear hsrc
  go_enter Tryf.func14, Tryf.ntmps14
  go_wp2_with fail
  go_loopw [3] (fun v3 wr => ∃ i : Nat, i ≤ src.length ∧ v3 = .int .i64 (i : Int) ∧ (∀ j, j < i → dpB (bt src j) = true) ∧ w = wr) (fun v3 _ => src.length - (intOf v3).toNat)
  case atStart => exact ⟨0, Nat.zero_le _, rfl, fun j h => absurd h (Nat.not_lt_zero _), rfl⟩
  case round =>
    obtain ⟨i, hi, rfl, hall, rfl⟩ := hrel
    have HA := Lib.hid hall
    clear hall
    by_cases hlt : i < src.length
    · obtain ⟨b, o, rfl, hb, hcc⟩ := HS.out.at_ (by omega)
      have tl : decide ((i : Int) < (src.length : Int)) = true := decide_eq_true (by omega)
      obtain ⟨c, hcd⟩ : ∃ c, bt src i = c := ⟨_, rfl⟩
      have hc1 : w.cell? ⟨b, o + i, none⟩ = some (.int .u8 (c : Int)) := by
        rw [hcc i hlt, ← hcd]
        unfold bt
        simp [List.getD, hlt]
      have hu : c < 256 := by rw [← hcd]; exact bt_lt _ _
      have HCD := Lib.hid hcd
      clear hcc hcd
      go_upto_region 5 with fail
      go_cut [15, 16, 17, 18, 19, 20, 21, 22, 23, 24, 25, 26, 27, 28, 29, 30, 31, 32, 33, 34, 35, 36, 37, 38, 39, 40, 41, 42, 43, 44, 45, 46, 47, 48] (fun v15 v16 v17 v18 v19 v20 v21 v22 v23 v24 v25 v26 v27 v28 v29 v30 v31 v32 v33 v34 v35 v36 v37 v38 v39 v40 v41 v42 v43 v44 v45 v46 v47 v48 wx => v48 = .bool (dpB c) ∧ w = wx)
      case first =>
        have HK := Lib.hid (fun W => zzisd_any c W)
        by_cases hd : dgB c = true
        · have E1 : Hid (dpB c = true) := Lib.hid (decide_eq_true (Or.inl (dgB_lt hd)))
          rw [hd] at HK
          clear hd
          go_wp2_with (go_at_call 49; refine (HK.out _).mono ?_; rintro e w2 ⟨rfl, rfl⟩)
          go_meet
          exact ⟨by rw [E1.out], rfl⟩
        have hdf : dgB c = false := by simpa using hd
        rw [hdf] at HK
        have hnd : ¬ (48 ≤ c ∧ c ≤ 57) := fun h => hd (decide_eq_true h)
        clear hd hdf
        by_cases h32 : c = 32
        · subst h32
          clear HK
          have HK := Lib.hid (fun W => zzisd_any 32 W)
          have e2 : dgB 32 = false := by decide
          rw [e2] at HK
          clear e2
          go_wp2_with (go_at_call 49; refine (HK.out _).mono ?_; rintro e w2 ⟨rfl, rfl⟩)
          go_meet
          exact ⟨rfl, rfl⟩
        have t32 : ((c : Int) == 32) = false := by simp; omega
        by_cases h9 : c = 9
        · subst h9
          clear HK
          have HK := Lib.hid (fun W => zzisd_any 9 W)
          have e2 : dgB 9 = false := by decide
          rw [e2] at HK
          clear e2
          go_wp2_with (go_at_call 49; refine (HK.out _).mono ?_; rintro e w2 ⟨rfl, rfl⟩)
          go_meet
          exact ⟨rfl, rfl⟩
        have t9 : ((c : Int) == 9) = false := by simp; omega
        by_cases h13 : c = 13
        · subst h13
          clear HK
          have HK := Lib.hid (fun W => zzisd_any 13 W)
          have e2 : dgB 13 = false := by decide
          rw [e2] at HK
          clear e2
          go_wp2_with (go_at_call 49; refine (HK.out _).mono ?_; rintro e w2 ⟨rfl, rfl⟩)
          go_meet
          exact ⟨rfl, rfl⟩
        have t13 : ((c : Int) == 13) = false := by simp; omega
        by_cases h10 : c = 10
        · subst h10
          clear HK
          have HK := Lib.hid (fun W => zzisd_any 10 W)
          have e2 : dgB 10 = false := by decide
          rw [e2] at HK
          clear e2
          go_wp2_with (go_at_call 49; refine (HK.out _).mono ?_; rintro e w2 ⟨rfl, rfl⟩)
          go_meet
          exact ⟨rfl, rfl⟩
        have t10 : ((c : Int) == 10) = false := by simp; omega
        by_cases h40 : c = 40
        · subst h40
          clear HK
          have HK := Lib.hid (fun W => zzisd_any 40 W)
          have e2 : dgB 40 = false := by decide
          rw [e2] at HK
          clear e2
          go_wp2_with (go_at_call 49; refine (HK.out _).mono ?_; rintro e w2 ⟨rfl, rfl⟩)
          go_meet
          exact ⟨rfl, rfl⟩
        have t40 : ((c : Int) == 40) = false := by simp; omega
        by_cases h41 : c = 41
        · subst h41
          clear HK
          have HK := Lib.hid (fun W => zzisd_any 41 W)
          have e2 : dgB 41 = false := by decide
          rw [e2] at HK
          clear e2
          go_wp2_with (go_at_call 49; refine (HK.out _).mono ?_; rintro e w2 ⟨rfl, rfl⟩)
          go_meet
          exact ⟨rfl, rfl⟩
        have t41 : ((c : Int) == 41) = false := by simp; omega
        by_cases h44 : c = 44
        · subst h44
          clear HK
          have HK := Lib.hid (fun W => zzisd_any 44 W)
          have e2 : dgB 44 = false := by decide
          rw [e2] at HK
          clear e2
          go_wp2_with (go_at_call 49; refine (HK.out _).mono ?_; rintro e w2 ⟨rfl, rfl⟩)
          go_meet
          exact ⟨rfl, rfl⟩
        have t44 : ((c : Int) == 44) = false := by simp; omega
        by_cases h59 : c = 59
        · subst h59
          clear HK
          have HK := Lib.hid (fun W => zzisd_any 59 W)
          have e2 : dgB 59 = false := by decide
          rw [e2] at HK
          clear e2
          go_wp2_with (go_at_call 49; refine (HK.out _).mono ?_; rintro e w2 ⟨rfl, rfl⟩)
          go_meet
          exact ⟨rfl, rfl⟩
        have t59 : ((c : Int) == 59) = false := by simp; omega
        have E1 : Hid (dpB c = false) := Lib.hid (decide_eq_false (by omega))
        clear h32 h9 h13 h10 h40 h41 h44 h59 hnd
        go_wp2_with (go_at_call 49; refine (HK.out _).mono ?_; rintro e w2 ⟨rfl, rfl⟩)
        go_meet
        exact ⟨by rw [E1.out], rfl⟩
      case rest =>
      obtain ⟨rfl, rfl⟩ := hcut
      rcases hb2 : dpB c with _ | _
      · go_wp2_with fail
        go_ret
        exact ⟨false, rfl, (fun h => nomatch h), rfl⟩
      · have HN : Hid (∀ j, j < i + 1 → dpB (bt src j) = true) := Lib.hid (fun j hj => by
          by_cases h : j < i
          · exact HA.out j h
          · obtain rfl : j = i := by omega
            rw [HCD.out, hb2])
        clear hb2
        go_wp2_with fail
        go_roundw
        case rel => exact ⟨i + 1, by omega, by go_num, HN.out, by first | rfl | trivial⟩
        case measure => simp [intOf]; omega
    · obtain rfl : i = src.length := by omega
      go_wp2
      go_ret
      exact ⟨true, by first | rfl | trivial, (fun _ => HA.out), rfl⟩
end Go.Proofs.YtamfekpcoppbgaaFmt
namespace Go.Proofs.YtamfekpcoppbgaaFmt
open Go.RowKit
set_option maxRecDepth 100000
set_option linter.unusedVariables false

/-- the value owns a row of the values xs in block g, from block B on -/
structure Rw (w : World) (B : Nat) (e : TypeId) (g cp n : Nat) (xs : List Value) : Prop where
  own : w.ownsRow B e 1 (.slice (some ⟨g, 0, none⟩) n cp) n xs
  lo : B ≤ g
  lt : g < w.heap.size
theorem Rw.keep {w w' : World} {B : Nat} {e : TypeId} {g cp n : Nat} {xs : List Value} (h : Rw w B e g cp n xs) (hb : w'.heap[g]? = w.heap[g]?) (hs : w.heap.size ≤ w'.heap.size) : Rw w' B e g cp n xs :=
  ⟨own_keep0 h.own (fun k hk => by have : k = g := by simpa [Value.ownBlock] using hk
                                   rw [this, hb]), h.lo, Nat.lt_of_lt_of_le h.lt hs⟩
theorem Rw.at_ {w : World} {B : Nat} {e : TypeId} {g cp n : Nat} {xs : List Value} (h : Rw w B e g cp n xs) (k : Nat) (u : Value) (hk : xs[k]? = some u) : w.cell? ⟨g, k, none⟩ = some u := by
  have := h.own.cells (g := g) rfl _ _ hk
  have ea : (⟨g, 0, none⟩ : Addr).add k = ⟨g, k, none⟩ := by unfold Addr.add; split <;> simp_all
  rw [ea] at this
  exact this
theorem rw_new {w : World} {e : TypeId} {z : Value} {B k : Nat} (hz : z.cells.size = 1) (hB : B ≤ w.heap.size) (hk : k ≤ 1048576) : Rw (w.alloc (.cells (madeCells #[z] k) e)) B e w.heap.size k 0 [] :=
  ⟨⟨by simp, Or.inr ⟨w.heap.size, k, _, rfl, hB, Blk.new w e (madeCells #[z] k), Nat.zero_le _, by simp [maxLen]; omega, by simp [size_madeCells], by simp⟩⟩, hB, by simp⟩
theorem wp_app_val {te e : TypeId} {z : Value} {bytes : Nat} (hu : Tryf.prog.underlying te = some (.slice e)) (hinf : (Tryf.prog.info? e).map (fun i => (i.zero, i.size, i.bytes)) = some (some z, 1, bytes)) (hzs : z.cells.size = 1) (hby : bytes ≤ 16)
    {w : World} {ops : Array Oper} {rest : List Oper} {o : Oper} {a : Act} {Q : Exit → Act → World → Prop} (hgd : o.guard = none) (s x : Operand)
    (ho : o.op = .call { callee := .builtin .append, args := #[s, x], argTypes := #[te, te] })
    (B g cp n : Nat) (xs : List Value) (hs : a.eval s = .slice (some ⟨g, 0, none⟩) n cp) (hown : Rw w B e g cp n xs) (u : Value) (hu1 : u.oneCell' = true) (hx : a.eval x = .slice (some ⟨w.heap.size, 0, none⟩) 1 1)
    (hlen : n + 1 ≤ 1048576)
    (h : ∀ g' cp' w', (g' = g ∨ w.heap.size < g') → Rw w' B e g' cp' (n + 1) (xs ++ [u]) → Below B w w' → w.heap.size ≤ w'.heap.size → (∀ k, k < w.heap.size → k ≠ g → w'.heap[k]? = w.heap[k]?) → wpList Tryf.prog ops Q rest (a.put o.dst (.slice (some ⟨g', 0, none⟩) (n + 1) cp')) w') :
    wpList Tryf.prog ops Q (o :: rest) a (w.alloc (.cells #[u] e)) := by
  obtain ⟨i0, hii, hy0, hy1, hy2⟩ := info_parts hinf
  have hB : B ≤ w.heap.size := Nat.le_trans hown.lo (Nat.le_of_lt hown.lt)
  refine wpList_append_own_at _ hgd s x te ho B e i0 z 1 bytes hu hii hy0 hy1 hy2 hzs (by decide) _ n xs hs (hown.own.alloc _) ⟨w.heap.size, 0, none⟩ 1 1 [u] hx rfl (cell_one_new w u e) (by simp [hu1]) (by simp only [maxLen]; omega) ?_ (by simp; omega) ?_
  · have := Nat.mul_le_mul hlen hby
    omega
  · intro v' w' hown' hgrow _ hat
    have hal : ∀ k, k < w.heap.size → (w.alloc (.cells #[u] e)).heap[k]? = w.heap[k]? := fun k hk => Below.heap_alloc w _ k hk
    have hsz : (w.alloc (.cells #[u] e)).heap.size = w.heap.size + 1 := by simp
    have hgs := hgrow.size
    rw [hsz] at hgs
    have hk : ∀ k, k < w.heap.size → k ≠ g → w'.heap[k]? = w.heap[k]? := fun k hk hne => (hgrow.block k (by omega) (by simp [Value.ownBlock]; exact hne)).trans (hal k hk)
    have hb : Below B w w' := ⟨hgrow.os, hgrow.tape, hgrow.output, by omega, fun k hkB => hk k (by omega) (by have := hown.lo; omega)⟩
    rcases hown'.2 with ⟨_, h0⟩ | ⟨g', cp', cur, rfl, hg', hh, _⟩
    · omega
    · refine h g' cp' w' ?_ ⟨hown', hg', Blk.lt (t := e) hh⟩ hb (by omega) hk
      rcases hat with hat | hat
      · left
        simpa [Value.ownBlock] using hat
      · right
        have : g' = w.heap.size + 1 := by
          have := hat
          simp [Value.ownBlock] at this
          omega
        omega
theorem str_info : (Tryf.prog.info? 9).map (fun i => (i.zero, i.size, i.bytes)) = some (some (.string ⟨#[]⟩), 1, 16) := by kernel_rfl
theorem dm_int (n : Nat) (hn : n ≤ 1048576) (w : World) : (Instr.makeSlice 30 (.int .i64 0) (.int .i64 (n : Int))).run Tryf.prog w = .ok (.slice (some ⟨w.heap.size, 0, none⟩) 0 n) (w.alloc (.cells (madeCells #[.int .i64 0] n) 3)) := by
  obtain ⟨i0, hi, hz0, hz1, hz2⟩ := info_parts int_info
  have h := run_make (P := Tryf.prog) w 30 3 i0 _ Tryf.underlying30 hi hz0 .i64 .i64 0 (n : Int) (by omega) (by omega) (by rw [hz2]; omega) (by omega)
  rw [h, hz1]
  simp [Value.cells]
theorem dm_str (n : Nat) (hn : n ≤ 1048576) (w : World) : (Instr.makeSlice 38 (.int .i64 0) (.int .i64 (n : Int))).run Tryf.prog w = .ok (.slice (some ⟨w.heap.size, 0, none⟩) 0 n) (w.alloc (.cells (madeCells #[.string ⟨#[]⟩] n) 9)) := by
  obtain ⟨i0, hi, hz0, hz1, hz2⟩ := info_parts str_info
  have h := run_make (P := Tryf.prog) w 38 9 i0 _ Tryf.underlying38 hi hz0 .i64 .i64 0 (n : Int) (by omega) (by omega) (by rw [hz2]; omega) (by omega)
  rw [h, hz1]
  simp [Value.cells]
/-! the three rows of the model -/
abbrev Tks := List (Nat × List UInt8 × Nat)
def kC (T : Tks) : List Value := T.map fun t => .int .i64 (t.1 : Int)
def lC (T : Tks) : List Value := T.map fun t => .string ⟨t.2.1.toArray⟩
def oC (T : Tks) : List Value := T.map fun t => .int .i64 (t.2.2 : Int)
structure R3 (w : World) (B : Nat) (g6 c6 n6 : Nat) (K : List Value) (g7 c7 n7 : Nat) (L : List Value) (g8 c8 n8 : Nat) (O : List Value) : Prop where
  k : Rw w B 3 g6 c6 n6 K
  l : Rw w B 9 g7 c7 n7 L
  o : Rw w B 3 g8 c8 n8 O
  n67 : g6 ≠ g7
  n68 : g6 ≠ g8
  n78 : g7 ≠ g8
variable {w : World} {ops : Array Oper} {rest : List Oper} {o : Oper} {a : Act} {Q : Exit → Act → World → Prop} {B g6 c6 n6 g7 c7 n7 g8 c8 n8 : Nat} {K L O : List Value}
theorem wp_app6 (hgd : o.guard = none) (s x : Operand) (ho : o.op = .call { callee := .builtin .append, args := #[s, x], argTypes := #[30, 30] }) (hs : a.eval s = .slice (some ⟨g6, 0, none⟩) n6 c6) (hr : R3 w B g6 c6 n6 K g7 c7 n7 L g8 c8 n8 O) (u : Value) (hu1 : u.oneCell' = true) (hx : a.eval x = .slice (some ⟨w.heap.size, 0, none⟩) 1 1) (hlen : n6 + 1 ≤ 1048576)
    (h : ∀ g cp w', R3 w' B g cp (n6 + 1) (K ++ [u]) g7 c7 n7 L g8 c8 n8 O → Below B w w' → wpList Tryf.prog ops Q rest (a.put o.dst (.slice (some ⟨g, 0, none⟩) (n6 + 1) cp)) w') : wpList Tryf.prog ops Q (o :: rest) a (w.alloc (.cells #[u] 3)) :=
  wp_app_val Tryf.underlying30 int_info rfl (by decide) hgd s x ho B g6 c6 n6 K hs hr.k u hu1 hx hlen (fun g cp w' hg h1 h2 h3 h4 => h g cp w' ⟨h1, hr.l.keep (h4 _ hr.l.lt (Ne.symm hr.n67)) h3, hr.o.keep (h4 _ hr.o.lt (Ne.symm hr.n68)) h3, by have := hr.n67; have := hr.l.lt; omega, by have := hr.n68; have := hr.o.lt; omega, hr.n78⟩ h2)
theorem wp_app7 (hgd : o.guard = none) (s x : Operand) (ho : o.op = .call { callee := .builtin .append, args := #[s, x], argTypes := #[38, 38] }) (hs : a.eval s = .slice (some ⟨g7, 0, none⟩) n7 c7) (hr : R3 w B g6 c6 n6 K g7 c7 n7 L g8 c8 n8 O) (u : Value) (hu1 : u.oneCell' = true) (hx : a.eval x = .slice (some ⟨w.heap.size, 0, none⟩) 1 1) (hlen : n7 + 1 ≤ 1048576)
    (h : ∀ g cp w', R3 w' B g6 c6 n6 K g cp (n7 + 1) (L ++ [u]) g8 c8 n8 O → Below B w w' → wpList Tryf.prog ops Q rest (a.put o.dst (.slice (some ⟨g, 0, none⟩) (n7 + 1) cp)) w') : wpList Tryf.prog ops Q (o :: rest) a (w.alloc (.cells #[u] 9)) :=
  wp_app_val Tryf.underlying38 str_info rfl (by decide) hgd s x ho B g7 c7 n7 L hs hr.l u hu1 hx hlen (fun g cp w' hg h1 h2 h3 h4 => h g cp w' ⟨hr.k.keep (h4 _ hr.k.lt hr.n67) h3, h1, hr.o.keep (h4 _ hr.o.lt (Ne.symm hr.n78)) h3, by have := hr.n67; have := hr.k.lt; omega, hr.n68, by have := hr.n78; have := hr.o.lt; omega⟩ h2)
theorem wp_app8 (hgd : o.guard = none) (s x : Operand) (ho : o.op = .call { callee := .builtin .append, args := #[s, x], argTypes := #[30, 30] }) (hs : a.eval s = .slice (some ⟨g8, 0, none⟩) n8 c8) (hr : R3 w B g6 c6 n6 K g7 c7 n7 L g8 c8 n8 O) (u : Value) (hu1 : u.oneCell' = true) (hx : a.eval x = .slice (some ⟨w.heap.size, 0, none⟩) 1 1) (hlen : n8 + 1 ≤ 1048576)
    (h : ∀ g cp w', R3 w' B g6 c6 n6 K g7 c7 n7 L g cp (n8 + 1) (O ++ [u]) → Below B w w' → wpList Tryf.prog ops Q rest (a.put o.dst (.slice (some ⟨g, 0, none⟩) (n8 + 1) cp)) w') : wpList Tryf.prog ops Q (o :: rest) a (w.alloc (.cells #[u] 3)) :=
  wp_app_val Tryf.underlying30 int_info rfl (by decide) hgd s x ho B g8 c8 n8 O hs hr.o u hu1 hx hlen (fun g cp w' hg h1 h2 h3 h4 => h g cp w' ⟨hr.k.keep (h4 _ hr.k.lt hr.n68) h3, hr.l.keep (h4 _ hr.l.lt hr.n78) h3, h1, hr.n67, by have := hr.n68; have := hr.k.lt; omega, by have := hr.n78; have := hr.l.lt; omega⟩ h2)
theorem kC_app (T : Tks) (t : Nat × List UInt8 × Nat) : kC (T ++ [t]) = kC T ++ [.int .i64 (t.1 : Int)] := by simp [kC]
theorem lC_app (T : Tks) (t : Nat × List UInt8 × Nat) : lC (T ++ [t]) = lC T ++ [.string ⟨t.2.1.toArray⟩] := by simp [lC]
theorem oC_app (T : Tks) (t : Nat × List UInt8 × Nat) : oC (T ++ [t]) = oC T ++ [.int .i64 (t.2.2 : Int)] := by simp [oC]
/-- the three rows of a list of tokens -/
def RT (w : World) (B g6 c6 g7 c7 g8 c8 n : Nat) (T : Tks) : Prop := T.length = n ∧ R3 w B g6 c6 n (kC T) g7 c7 n (lC T) g8 c8 n (oC T)
theorem RT.push {n : Nat} {T : Tks} {t : Nat × List UInt8 × Nat} (hn : T.length = n) (h : R3 w B g6 c6 (n + 1) (kC T ++ [.int .i64 (t.1 : Int)]) g7 c7 (n + 1) (lC T ++ [.string ⟨t.2.1.toArray⟩]) g8 c8 (n + 1) (oC T ++ [.int .i64 (t.2.2 : Int)])) : RT w B g6 c6 g7 c7 g8 c8 (n + 1) (T ++ [t]) := by
  refine ⟨by simp [hn], ?_⟩
  rw [kC_app, lC_app, oC_app]
  exact h
/-- the list so far: whatever completes it from here completes the whole -/
def Sofar (src : List UInt8) (T : Tks) (i : Nat) (ins : Bool) : Prop := ∀ T', MAll src i ins T' → MAll src 0 false (T ++ T')
theorem Sofar.more {src : List UInt8} {T : Tks} {i : Nat} {ins : Bool} {k : Nat} {l : List UInt8} {o j : Nat} {b : Bool} (h : Sofar src T i ins) (ht : MTok src i ins k l o j b) (hk : k ≠ 5) : Sofar src (T ++ [(k, l, o)]) j b := by
  intro T' hT
  rw [List.append_assoc]
  exact h _ (MAll.more ht hk hT)
end Go.Proofs.YtamfekpcoppbgaaFmt
