/-
  Comments in plain words: where they end, their carriage returns, their text. No program in sight; no conditions.
-/
import Derived.Test.YtamfekpcoppbgaaFmtStripG
namespace Go.Proofs.YtamfekpcoppbgaaFmt
set_option linter.unusedVariables false

theorem decodeN_cont (n b0 b1 b2 b3 : Nat) : (1 < (Lib.decodeN n b0 b1 b2 b3).2 → 128 ≤ b1) ∧ (2 < (Lib.decodeN n b0 b1 b2 b3).2 → 128 ≤ b2) ∧ (3 < (Lib.decodeN n b0 b1 b2 b3).2 → 128 ≤ b3) := by
  unfold Lib.decodeN
  repeat' split
  all_goals refine ⟨?_, ?_, ?_⟩
  all_goals intro h
  all_goals first | omega | (exfalso; simp at h; done) | (exfalso; simp at h; omega)
/-- the later bytes of a rune are no ASCII -/
theorem rn_cont (src : List UInt8) (i : Nat) (h : i < src.length) (k : Nat) (h1 : i < k) (h2 : k < i + (rn src i).2) : 128 ≤ bt src k := by
  have hc := decodeN_cont (src.length - i) (bt src i) (bt src (i + 1)) (bt src (i + 2)) (bt src (i + 3))
  have hf := (rn_facts src i h).2.1
  unfold rn at h2 hf
  obtain ⟨d, rfl⟩ : ∃ d, k = i + d := ⟨k - i, by omega⟩
  rcases d with _ | _ | _ | _ | d
  · omega
  · exact hc.1 (by omega)
  · exact hc.2.1 (by omega)
  · exact hc.2.2 (by omega)
  · omega

/-- how many carriage returns lie from a up to k -/
def cr (src : List UInt8) (a : Nat) : Nat → Nat
  | 0 => 0
  | k + 1 => cr src a k + (if a ≤ k ∧ bt src k = 13 then 1 else 0)
theorem cr_start (src : List UInt8) (a : Nat) : ∀ k, k ≤ a → cr src a k = 0
  | 0, _ => rfl
  | k + 1, h => by
    show cr src a k + (if a ≤ k ∧ bt src k = 13 then 1 else 0) = 0
    rw [cr_start src a k (by omega), if_neg (by omega)]
theorem cr_skip (src : List UInt8) (a i : Nat) : ∀ d, (∀ k, i ≤ k → k < i + d → bt src k ≠ 13) → cr src a (i + d) = cr src a i
  | 0, _ => rfl
  | d + 1, h => by
    show cr src a (i + d) + (if a ≤ i + d ∧ bt src (i + d) = 13 then 1 else 0) = _
    rw [if_neg (fun hh => h (i + d) (by omega) (by omega) hh.2), cr_skip src a i d (fun k h1 h2 => h k h1 (by omega)), Nat.add_zero]
theorem cr_le (src : List UInt8) (a : Nat) : ∀ k, cr src a k ≤ k
  | 0 => Nat.le_refl _
  | k + 1 => by
    have := cr_le src a k
    unfold cr
    split <;> omega
theorem cr_zero {src : List UInt8} {a : Nat} : ∀ {k : Nat}, cr src a k = 0 → ∀ i, a ≤ i → i < k → bt src i ≠ 13
  | 0, _, i, _, h => by omega
  | k + 1, h, i, h1, h2 => by
    unfold cr at h
    by_cases hi : i = k
    · subst hi
      intro h13
      rw [if_pos ⟨h1, h13⟩] at h
      omega
    · exact cr_zero (k := k) (by omega) i h1 (by omega)

/-- one step of next, as the comment loops see it -/
structure Step (src : List UInt8) (t : St) : Prop where
  lt : t.off < src.length
  far : t.off < (nx src t).off
  good : Good src (nx src t)
  rest : ∀ i, t.off < i → i < (nx src t).off → 128 ≤ bt src i
  one : bt src t.off < 128 → (nx src t).off = t.off + 1
  ec : (nx src t).ec ≤ t.ec + 1
theorem step_of {src : List UInt8} {t : St} (hg : Good src t) (hc : 0 ≤ t.ch) : Step src t := by
  rcases hg with ⟨h1, h2, h3⟩ | ⟨h1, h2, h3⟩
  · have f := rn_facts src t.off h1
    have ho : (nx src t).off = t.rd := by
      unfold nx
      split
      · rfl
      · show src.length = t.rd
        omega
    refine ⟨h1, by omega, nx_good src t (by omega), fun i i1 i2 => rn_cont src t.off h1 i i1 (by omega), fun hb => ?_, ?_⟩
    · have hw := f.2.2.2.2.2 hb
      rw [ho, h2, hw]
    · unfold nx
      split
      · show t.ec + (if badc src t.rd = true then 1 else 0) ≤ t.ec + 1
        split <;> omega
      · show t.ec ≤ t.ec + 1
        omega
  · omega
theorem cr_step {src : List UInt8} {t : St} {a : Nat} (h : Step src t) (ha : a ≤ t.off) : cr src a (nx src t).off = cr src a t.off + (if bt src t.off = 13 then 1 else 0) := by
  have hf := h.far
  have e := cr_skip src a (t.off + 1) ((nx src t).off - (t.off + 1)) (fun k k1 k2 => by have := h.rest k (by omega) (by omega); omega)
  rw [show t.off + 1 + ((nx src t).off - (t.off + 1)) = (nx src t).off by omega] at e
  rw [e]
  show cr src a t.off + (if a ≤ t.off ∧ bt src t.off = 13 then 1 else 0) = _
  by_cases hb : bt src t.off = 13
  · rw [if_pos ⟨ha, hb⟩, if_pos hb]
  · rw [if_neg (fun h => hb h.2), if_neg hb]

/-! a line comment -/
structure LcEnd (src : List UInt8) (p k : Nat) : Prop where
  lo : p + 2 ≤ k
  hi : k ≤ src.length
  none : ∀ i, p + 2 ≤ i → i < k → bt src i ≠ 10
  stop : k < src.length → bt src k = 10
/-- on the way through it -/
structure LcIn (src : List UInt8) (p e0 c : Nat) (t : St) : Prop where
  good : Good src t
  lo : p + 2 ≤ t.off
  none : ∀ i, p + 2 ≤ i → i < t.off → bt src i ≠ 10
  cnt : c = cr src (p + 2) t.off
  ec : t.ec ≤ e0 + t.off
theorem LcIn.next {src : List UInt8} {p e0 c : Nat} {t : St} (h : LcIn src p e0 c t) (h0 : 0 ≤ t.ch) (h10 : t.ch ≠ 10) : LcIn src p e0 (c + (if t.ch = 13 then 1 else 0)) (nx src t) ∧ t.off < (nx src t).off ∧ t.off < src.length := by
  have st := step_of h.good h0
  have hlo := h.lo
  have hf := st.far
  have e10 : t.ch = 10 ↔ _ := Good.ascii h.good 10 (by omega)
  have e13 : t.ch = 13 ↔ _ := Good.ascii h.good 13 (by omega)
  have hb10 : bt src t.off ≠ 10 := fun hb => h10 (e10.2 ⟨st.lt, hb⟩)
  refine ⟨⟨st.good, by omega, fun i i1 i2 => ?_, ?_, by have := h.ec; have := st.ec; omega⟩, hf, st.lt⟩
  · rcases Nat.lt_trichotomy i t.off with hi | hi | hi
    · exact h.none i i1 hi
    · rw [hi]
      exact hb10
    · have := st.rest i hi i2
      omega
  · rw [cr_step st hlo, h.cnt]
    by_cases hb : bt src t.off = 13
    · rw [if_pos hb, if_pos (e13.2 ⟨st.lt, hb⟩)]
    · rw [if_neg hb, if_neg (fun hh => hb (e13.1 hh).2)]
theorem LcIn.done {src : List UInt8} {p e0 c : Nat} {t : St} (h : LcIn src p e0 c t) (hs : t.ch = 10 ∨ t.ch < 0) : LcEnd src p t.off := by
  refine ⟨h.lo, h.good.le.2.2, h.none, fun hlt => ?_⟩
  rcases hs with h1 | h1
  · exact ((Good.ascii h.good 10 (by omega)).1 h1).2
  · rcases h.good with ⟨_, _, h3⟩ | ⟨h2, _, _⟩ <;> omega
theorem LcEnd.same {src : List UInt8} {p k k' : Nat} (h : LcEnd src p k) (h' : LcEnd src p k') : k = k' := by
  have a1 := h.lo
  have a2 := h'.lo
  have b1 := h.hi
  have b2 := h'.hi
  rcases Nat.lt_trichotomy k k' with hh | hh | hh
  · exact absurd (h.stop (by omega)) (h'.none k (by omega) hh)
  · exact hh
  · exact absurd (h'.stop (by omega)) (h.none k' (by omega) hh)

/-! a block comment -/
def ss (src : List UInt8) (i : Nat) : Prop := bt src i = 42 ∧ i + 1 < src.length ∧ bt src (i + 1) = 47
structure BcEnd (src : List UInt8) (p k : Nat) (closed : Bool) : Prop where
  lo : p + 2 ≤ k
  hi : k ≤ src.length
  none : ∀ i, p + 2 ≤ i → i + 2 < k → ¬ ss src i
  shut : closed = true → p + 4 ≤ k ∧ ss src (k - 2)
  unshut : closed = false → k = src.length ∧ ∀ i, p + 2 ≤ i → ¬ ss src i
structure BcIn (src : List UInt8) (p e0 c : Nat) (t : St) : Prop where
  good : Good src t
  lo : p + 2 ≤ t.off
  none : ∀ i, p + 2 ≤ i → i < t.off → ¬ ss src i
  cnt : c = cr src (p + 2) t.off
  ec : t.ec ≤ e0 + t.off
theorem BcIn.next {src : List UInt8} {p e0 c : Nat} {t : St} (h : BcIn src p e0 c t) (h0 : 0 ≤ t.ch) (hns : ¬ (t.ch = 42 ∧ (nx src t).ch = 47)) : BcIn src p e0 (c + (if t.ch = 13 then 1 else 0)) (nx src t) := by
  have st := step_of h.good h0
  have hlo := h.lo
  have hf := st.far
  have e13 : t.ch = 13 ↔ _ := Good.ascii h.good 13 (by omega)
  have e42 : t.ch = 42 ↔ _ := Good.ascii h.good 42 (by omega)
  have e47 : (nx src t).ch = 47 ↔ _ := Good.ascii st.good 47 (by omega)
  refine ⟨st.good, by omega, fun i i1 i2 => ?_, ?_, by have := h.ec; have := st.ec; omega⟩
  · rcases Nat.lt_trichotomy i t.off with hi | hi | hi
    · exact h.none i i1 hi
    · subst hi
      rintro ⟨s1, s2, s3⟩
      have h1 := st.one (by omega)
      exact hns ⟨e42.2 ⟨st.lt, s1⟩, e47.2 ⟨by omega, by rw [h1]; exact s3⟩⟩
    · have := st.rest i hi i2
      rintro ⟨s1, _⟩
      omega
  · rw [cr_step st hlo, h.cnt]
    by_cases hb : bt src t.off = 13
    · rw [if_pos hb, if_pos (e13.2 ⟨st.lt, hb⟩)]
    · rw [if_neg hb, if_neg (fun hh => hb (e13.1 hh).2)]
theorem BcIn.open_ {src : List UInt8} {p e0 c : Nat} {t : St} (h : BcIn src p e0 c t) (hs : t.ch < 0) : BcEnd src p t.off false ∧ t.off = src.length := by
  have ho : t.off = src.length := by
    rcases h.good with ⟨_, _, h3⟩ | ⟨h2, _, _⟩ <;> omega
  refine ⟨⟨h.lo, by omega, fun i i1 i2 => h.none i i1 (by omega), (fun h => nomatch h), fun _ => ⟨ho, fun i i1 => ?_⟩⟩, ho⟩
  rcases Nat.lt_or_ge i t.off with hi | hi
  · exact h.none i i1 hi
  · rintro ⟨_, s2, _⟩
    omega
/-- the closing step: on a star, then on a slash, then behind it -/
theorem BcIn.shut {src : List UInt8} {p e0 c : Nat} {t : St} (h : BcIn src p e0 c t) (h42 : t.ch = 42) (h47 : (nx src t).ch = 47) :
    BcEnd src p (nx src (nx src t)).off true ∧ Good src (nx src (nx src t)) ∧ c = cr src (p + 2) (nx src (nx src t)).off ∧ (nx src (nx src t)).ec ≤ e0 + (nx src (nx src t)).off ∧ (nx src (nx src t)).off = t.off + 2 := by
  have st := step_of h.good (by omega)
  have st2 := step_of st.good (by omega)
  have hlo := h.lo
  have e42 := (Good.ascii h.good 42 (by omega)).1 h42
  have e47 := (Good.ascii st.good 47 (by omega)).1 h47
  have o1 := st.one (by omega)
  have o2 := st2.one (by omega)
  have c1 := cr_step st hlo
  have c2 := cr_step (a := p + 2) st2 (by omega)
  rw [if_neg (by omega)] at c1 c2
  have hx := h.ec
  have hx1 := st.ec
  have hx2 := st2.ec
  have hgl := st2.good.le.2.2
  refine ⟨⟨by omega, hgl, fun i i1 i2 => h.none i i1 (by omega), fun _ => ⟨by omega, ?_⟩, (fun h => nomatch h)⟩, st2.good, by rw [c2, c1, h.cnt]; rfl, by omega, by omega⟩
  rw [show (nx src (nx src t)).off - 2 = t.off by omega]
  exact ⟨e42.2, by omega, by rw [← o1]; exact e47.2⟩
theorem BcEnd.same {src : List UInt8} {p k k' : Nat} {c c' : Bool} (h : BcEnd src p k c) (h' : BcEnd src p k' c') : k = k' := by
  rcases c with _ | _ <;> rcases c' with _ | _
  · rw [(h.unshut rfl).1, (h'.unshut rfl).1]
  · exact absurd (h'.shut rfl).2 ((h.unshut rfl).2 _ (by have := (h'.shut rfl).1; omega))
  · exact absurd (h.shut rfl).2 ((h'.unshut rfl).2 _ (by have := (h.shut rfl).1; omega))
  · have a := h.shut rfl
    have b := h'.shut rfl
    rcases Nat.lt_trichotomy k k' with hh | hh | hh
    · exact absurd a.2 (h'.none (k - 2) (by omega) (by omega))
    · exact hh
    · exact absurd b.2 (h.none (k' - 2) (by omega) (by omega))

/-! their texts -/
def filt (l : List UInt8) : List UInt8 := l.filter fun b => b.toNat ≠ 13
theorem bt_cut (src : List UInt8) (p k i : Nat) (hk : k ≤ src.length) (hi : i < k - p) : bt (cut src p k) i = bt src (p + i) := by
  unfold bt cut
  simp only [List.getD]
  rw [List.getElem?_take_of_lt hi, List.getElem?_drop]
theorem filt_id {l : List UInt8} (h : ∀ i, i < l.length → bt l i ≠ 13) : filt l = l := by
  unfold filt
  rw [List.filter_eq_self]
  intro a ha
  obtain ⟨i, hi, rfl⟩ := List.getElem_of_mem ha
  have := h i hi
  simpa [bt, List.getD, hi] using this
theorem stp_take (b : List UInt8) (c : Bool) : ∀ k, k ≤ b.length → (∀ i, i < k → bt b i ≠ 13) → stp b c k = b.take k
  | 0, _, _ => by simp [stp]
  | k + 1, hk, h => by
    unfold stp
    rw [if_pos (Or.inl (h k (by omega))), stp_take b c k (by omega) (fun i hi => h i (by omega)), List.take_add_one]
    simp [List.getD, show k < b.length by omega]
theorem strip_id {b : List UInt8} {c : Bool} (h : ∀ i, i < b.length → bt b i ≠ 13) : strip b c = b := by
  unfold strip
  rw [stp_take b c b.length (Nat.le_refl _) h, List.take_length]
theorem stp_filt (b : List UInt8) : ∀ k, k ≤ b.length → stp b false k = filt (b.take k)
  | 0, _ => by simp [stp, filt]
  | k + 1, hk => by
    have hg : b.take (k + 1) = b.take k ++ [b.getD k 0] := by
      rw [List.take_add_one]
      simp [List.getD, show k < b.length by omega]
    rw [hg]
    unfold stp filt
    rw [List.filter_append, stp_filt b k (by omega)]
    by_cases hb : bt b k = 13
    · rw [if_neg (by rintro (h | h); · exact h hb
                     · cases h.1)]
      have hb' : (b[k]?.getD 0).toNat = 13 := hb
      simp [filt, hb']
    · rw [if_pos (Or.inl hb)]
      have hb' : ¬ (b[k]?.getD 0).toNat = 13 := hb
      simp [filt, hb']
theorem strip_filt (b : List UInt8) : strip b false = filt b := by
  unfold strip
  rw [stp_filt b b.length (Nat.le_refl _), List.take_length]
theorem cut_snoc (src : List UInt8) (p k : Nat) (hp : p ≤ k) (hk : k < src.length) : cut src p (k + 1) = cut src p k ++ [src.getD k 0] := by
  unfold cut
  rw [show k + 1 - p = k - p + 1 by omega, List.take_add_one]
  simp [List.getD, show p + (k - p) = k by omega, hk]
theorem filt_last (src : List UInt8) (p k : Nat) (hp : p ≤ k) (hk : k < src.length) (h : bt src k = 13) : filt (cut src p (k + 1)) = filt (cut src p k) := by
  rw [cut_snoc src p k hp hk]
  have h' : (src[k]?.getD 0).toNat = 13 := h
  unfold filt
  rw [List.filter_append]
  simp [h']
theorem nocr {src : List UInt8} {p k : Nat} (hk : k ≤ src.length) (h1 : bt src p ≠ 13) (h2 : bt src (p + 1) ≠ 13) (h : cr src (p + 2) k = 0) : ∀ i, i < (cut src p k).length → bt (cut src p k) i ≠ 13 := by
  intro i hi
  rw [cut_len src p k hk] at hi
  rw [bt_cut src p k i hk hi]
  rcases i with _ | _ | i
  · exact h1
  · exact h2
  · exact cr_zero h (p + (i + 2)) (by omega) (by omega)

end Go.Proofs.YtamfekpcoppbgaaFmt
