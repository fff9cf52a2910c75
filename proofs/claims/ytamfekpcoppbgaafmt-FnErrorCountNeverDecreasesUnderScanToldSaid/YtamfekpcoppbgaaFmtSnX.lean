/-
  Scan in plain words: what every step keeps, every part of Scan keeps; progress, positions, literals. No program in sight; no conditions.
-/
import Derived.Test.YtamfekpcoppbgaaFmtSnW
namespace Go.Proofs.YtamfekpcoppbgaaFmt
open Go.RowKit
set_option maxRecDepth 100000
set_option linter.unusedVariables false

/-- kept by a step, by an error, by the flag -/
structure Stb (src : List UInt8) (P : St → Prop) : Prop where
  nx : ∀ s, P s → P (nx src s)
  err : ∀ s, P s → P (err s)
  semi : ∀ s b, P s → P { s with semi := b }
variable {src : List UInt8} {P : St → Prop}
theorem SkipR.stb (hP : Stb src P) {s t : St} (h : SkipR src s t) : P s → P t := by
  induction h with
  | stop => exact id
  | @step s t h1 h2 ih => exact fun hp => ih (hP.nx _ hp)
theorem IdR.stb (hP : Stb src P) {s t : St} (h : IdR src s t) : P s → P t := by
  induction h with
  | stop => exact id
  | @step s t h1 h2 ih => exact fun hp => ih (hP.nx _ hp)
theorem DigR.stb (hP : Stb src P) {b : Int} {s t : St} (h : DigR src b s t) : P s → P t := by
  induction h with
  | stop => exact id
  | @step s t h1 h2 ih => exact fun hp => ih (hP.nx _ hp)
theorem expS_stb (hP : Stb src P) {s : St} (h : P s) : P (expS src s) := by
  unfold expS
  split
  · exact hP.nx _ h
  · exact h
theorem expE_stb (hP : Stb src P) {s t : St} (h : P t) : P (expE s t) := by
  unfold expE
  split
  · exact hP.err _ h
  · exact h
theorem FracR.stb (hP : Stb src P) {b : Nat} {s t : St} {p : Bool} (h : FracR src b s p t) (hp : P s) : P t := by
  cases h with
  | yes _ hd => exact hd.stb hP (hP.nx _ hp)
  | no => exact hp
theorem ExpR.stb (hP : Stb src P) {s t : St} {p : Bool} (h : ExpR src s p t) (hp : P s) : P t := by
  cases h with
  | yes _ hd => exact expE_stb hP (hd.stb hP (expS_stb hP (hP.nx _ hp)))
  | no => exact hp
theorem dv_dig {c : Int} (h : 48 ≤ c ∧ c ≤ 57) : dg 10 c = true := by
  unfold dg
  refine decide_eq_true (Or.inr ?_)
  unfold dv
  split <;> omega
theorem NumR.stb (hP : Stb src P) {t u : St} {k : Int} (h : NumR src t k u) (hn : numC src t = true) (hp : P (nx src t)) : P u := by
  obtain ⟨a, b, p, q, h1, h2, h3, _⟩ := h
  refine h3.stb hP ?_
  by_cases hb : numB src t = 10
  · rw [hb] at h2
    unfold numS at h1
    rw [if_pos hb, hb] at h1
    cases h1 with
    | step hd hr => exact h2.stb hP (hr.stb hP hp)
    | stop hnd =>
      have hc := of_decide_eq_true hn
      have h46 : t.ch = 46 := by
        rcases hc with hc | hc
        · have hnd' : dg 10 t.ch = false := hnd
          rw [dv_dig hc] at hnd'
          cases hnd'
        · exact hc.1
      cases h2 with
      | yes _ hd => exact hd.stb hP hp
      | no hf => rw [h46] at hf; exact absurd hf (by decide)
  · unfold numS at h1
    rw [if_neg hb] at h1
    exact h2.stb hP (h1.stb hP (hP.nx _ hp))
theorem EscL.stb (hP : Stb src P) {b n x : Nat} {s t : St} {r : Option Nat} (h : EscL src b n x s t r) : P s → P t := by
  induction h with
  | done => exact id
  | bad => exact id
  | @step n x s t r h1 h2 ih => exact fun hp => ih (hP.nx _ hp)
theorem EscR.stb (hP : Stb src P) {q : Int} {s t : St} {ok : Bool} (h : EscR src q s t ok) (hp : P s) : P t := by
  cases h with
  | simple => exact hP.nx _ hp
  | @num _ n b m k r _ _ hl =>
    cases k
    · exact hl.stb hP hp
    · exact hl.stb hP (hP.nx _ hp)
  | bad => exact hp
theorem escEnd_stb (hP : Stb src P) {t : St} {ok : Bool} (h : P t) : P (escEnd t ok) := by
  unfold escEnd
  cases ok
  · exact hP.err _ h
  · exact h
theorem StrR.stb (hP : Stb src P) {s t : St} {b : Bool} (h : StrR src s t b) : P s → P t := by
  induction h with
  | stop => exact id
  | @shut s => exact hP.nx _
  | @plain s t b _ _ _ _ _ ih => exact fun hp => ih (hP.nx _ hp)
  | @esc s u t ok b _ he _ ih => exact fun hp => ih (escEnd_stb hP (he.stb hP (hP.nx _ hp)))
theorem endErr_stb (hP : Stb src P) {t : St} {b : Bool} (h : P t) : P (endErr t b) := by
  unfold endErr
  cases b
  · exact hP.err _ h
  · exact h
theorem RunR.stb (hP : Stb src P) {s t : St} {n m : Nat} {v v' b : Bool} (h : RunR src s n v t b m v') : P s → P t := by
  induction h with
  | stop => exact id
  | @shut s => exact hP.nx _
  | @plain s t n m v v' b _ _ _ _ _ ih => exact fun hp => ih (hP.nx _ hp)
  | @esc s u t n m v v' b ok _ he _ ih => exact fun hp => ih (escEnd_stb hP (he.stb hP (hP.nx _ hp)))
theorem runEnd_stb (hP : Stb src P) {t : St} {b : Bool} {n : Nat} {v : Bool} (h : P t) : P (runEnd t b n v) := by
  unfold runEnd
  split
  · exact hP.err _ h
  · exact h
theorem RawR.stb (hP : Stb src P) {s t : St} {b : Bool} (h : RawR src s t b) : P s → P t := by
  induction h with
  | eof => exact id
  | @shut s => exact hP.nx _
  | @step s t b _ _ _ ih => exact fun hp => ih (hP.nx _ hp)
theorem rawEnd_stb (hP : Stb src P) {t : St} {b : Bool} (h : P t) : P (rawEnd t b) := by
  unfold rawEnd
  cases b
  · exact hP.err _ h
  · exact h
theorem LnR.stb (hP : Stb src P) {s t : St} (h : LnR src s t) : P s → P t := by
  induction h with
  | stop => exact id
  | @step s t _ _ _ ih => exact fun hp => ih (hP.nx _ hp)
theorem BkR.stb (hP : Stb src P) {s t : St} {b : Bool} (h : BkR src s t b) : P s → P t := by
  induction h with
  | eof => exact id
  | @shut s => exact fun hp => hP.nx _ (hP.nx _ hp)
  | @step s t b _ _ _ ih => exact fun hp => ih (hP.nx _ hp)
theorem ComR.stb (hP : Stb src P) {s u : St} {txt : List UInt8} (h : ComR src s u txt) (hp : P s) : P u := by
  rcases h with ⟨_, h, _⟩ | ⟨_, ⟨t, b, h, rfl⟩, _⟩
  · exact h.stb hP (hP.nx _ hp)
  · exact rawEnd_stb hP (h.stb hP (hP.nx _ hp))
theorem BlkN.stb (hP : Stb src P) {s t : St} {k : Nat} (h : BlkN src s t k) : P s → P t := by
  induction h with
  | eof => exact id
  | nl => exact id
  | @shut s => exact fun hp => hP.nx _ (hP.nx _ hp)
  | @step s t b _ _ _ _ ih => exact fun hp => ih (hP.nx _ hp)
theorem FleR.stb (hP : Stb src P) {s t : St} {b : Bool} (h : FleR src s b t) : P s → P t := by
  induction h with
  | slash => exact id
  | other => exact id
  | @line s u _ hb => exact fun hp => hb.stb hP (hP.nx _ hp)
  | @endT s u v k _ hb _ hs _ => exact fun hp => hs.stb hP (hb.stb hP (hP.nx _ hp))
  | @stopF s u v k _ hb _ hs _ _ _ => exact fun hp => hs.stb hP (hb.stb hP (hP.nx _ hp))
  | @more s u v z k b _ hb _ hs _ _ ih => exact fun hp => ih (hP.nx _ (hs.stb hP (hb.stb hP (hP.nx _ hp))))
theorem fin_stb (hP : Stb src P) {b : Bool} {u : St} (h : P u) : P (fin b u) := by
  unfold fin
  split
  · exact hP.semi _ _ h
  · exact h
theorem sw2_stb (hP : Stb src P) {s : St} {a b : Int} (h : P s) : P (sw2 src s a b).2 := by
  unfold sw2
  split
  · exact hP.nx _ h
  · exact h
theorem sw3_stb (hP : Stb src P) {s : St} {a b c d : Int} (h : P s) : P (sw3 src s a b c d).2 := by
  unfold sw3
  split
  · exact hP.nx _ h
  · split
    · exact hP.nx _ h
    · exact h
theorem sw4_stb (hP : Stb src P) {s : St} {a b c d e : Int} (h : P s) : P (sw4 src s a b c d e).2 := by
  unfold sw4
  split
  · exact hP.nx _ h
  · split
    · split
      · exact hP.nx _ (hP.nx _ h)
      · exact hP.nx _ h
    · exact h
theorem sw2_k {s : St} {a b : Int} (ha : 8 < a) (hb : 8 < b) : 8 < (sw2 src s a b).1 := by
  unfold sw2
  split <;> assumption
theorem sw3_k {s : St} {a b c d : Int} (ha : 8 < a) (hb : 8 < b) (hd : 8 < d) : 8 < (sw3 src s a b c d).1 := by
  unfold sw3
  split
  · assumption
  · split <;> assumption
theorem sw4_k {s : St} {a b c d e : Int} (ha : 8 < a) (hb : 8 < b) (hd : 8 < d) (he : 8 < e) : 8 < (sw4 src s a b c d e).1 := by
  unfold sw4
  split
  · assumption
  · split
    · split <;> assumption
    · assumption
theorem ite_some {α : Type} {c : Prop} [Decidable c] {a b : Option α} {r : α} (h : (if c then a else b) = some r) : (c ∧ a = some r) ∨ (¬ c ∧ b = some r) := by
  by_cases hc : c
  · rw [if_pos hc] at h
    exact Or.inl ⟨hc, h⟩
  · rw [if_neg hc] at h
    exact Or.inr ⟨hc, h⟩
/-- a mark's or an operator's token: its kind lies above the literals' -/
theorem symT_out (hP : Stb src P) {t : St} {r : Tk} (h : symT src t = some r) (hp : P (nx src t)) : P r.2.2.2 ∧ 8 < r.1 := by
  unfold symT at h
  simp only at h
  rcases ite_some h with ⟨_, h⟩ | ⟨_, h⟩
  · obtain rfl := Option.some.inj h; exact ⟨sw2_stb hP hp, sw2_k (by decide) (by decide)⟩
  rcases ite_some h with ⟨_, h⟩ | ⟨_, h⟩
  · obtain rfl := Option.some.inj h; split; exact ⟨hP.nx _ (hP.nx _ hp), by simp⟩; exact ⟨hp, by simp⟩
  rcases ite_some h with ⟨_, h⟩ | ⟨_, h⟩
  · obtain rfl := Option.some.inj h; exact ⟨hp, by simp⟩
  rcases ite_some h with ⟨_, h⟩ | ⟨_, h⟩
  · obtain rfl := Option.some.inj h; exact ⟨hp, by simp⟩
  rcases ite_some h with ⟨_, h⟩ | ⟨_, h⟩
  · obtain rfl := Option.some.inj h; exact ⟨hp, by simp⟩
  rcases ite_some h with ⟨_, h⟩ | ⟨_, h⟩
  · obtain rfl := Option.some.inj h; exact ⟨hp, by simp⟩
  rcases ite_some h with ⟨_, h⟩ | ⟨_, h⟩
  · obtain rfl := Option.some.inj h; exact ⟨hp, by simp⟩
  rcases ite_some h with ⟨_, h⟩ | ⟨_, h⟩
  · obtain rfl := Option.some.inj h; exact ⟨hp, by simp⟩
  rcases ite_some h with ⟨_, h⟩ | ⟨_, h⟩
  · obtain rfl := Option.some.inj h; exact ⟨hp, by simp⟩
  rcases ite_some h with ⟨_, h⟩ | ⟨_, h⟩
  · obtain rfl := Option.some.inj h; exact ⟨hp, by simp⟩
  rcases ite_some h with ⟨_, h⟩ | ⟨_, h⟩
  · obtain rfl := Option.some.inj h; exact ⟨hp, by simp⟩
  rcases ite_some h with ⟨_, h⟩ | ⟨_, h⟩
  · obtain rfl := Option.some.inj h; exact ⟨sw3_stb hP hp, sw3_k (by decide) (by decide) (by decide)⟩
  rcases ite_some h with ⟨_, h⟩ | ⟨_, h⟩
  · obtain rfl := Option.some.inj h; exact ⟨sw3_stb hP hp, sw3_k (by decide) (by decide) (by decide)⟩
  rcases ite_some h with ⟨_, h⟩ | ⟨_, h⟩
  · obtain rfl := Option.some.inj h; exact ⟨sw2_stb hP hp, sw2_k (by decide) (by decide)⟩
  rcases ite_some h with ⟨_, h⟩ | ⟨_, h⟩
  · rcases ite_some h with ⟨_, h⟩ | ⟨_, h⟩; exact absurd h (by simp); obtain rfl := Option.some.inj h; exact ⟨sw2_stb hP hp, sw2_k (by decide) (by decide)⟩
  rcases ite_some h with ⟨_, h⟩ | ⟨_, h⟩
  · obtain rfl := Option.some.inj h; exact ⟨sw2_stb hP hp, sw2_k (by decide) (by decide)⟩
  rcases ite_some h with ⟨_, h⟩ | ⟨_, h⟩
  · obtain rfl := Option.some.inj h; exact ⟨sw2_stb hP hp, sw2_k (by decide) (by decide)⟩
  rcases ite_some h with ⟨_, h⟩ | ⟨_, h⟩
  · obtain rfl := Option.some.inj h; exact ⟨sw4_stb hP hp, sw4_k (by decide) (by decide) (by decide) (by decide)⟩
  rcases ite_some h with ⟨_, h⟩ | ⟨_, h⟩
  · obtain rfl := Option.some.inj h; exact ⟨sw4_stb hP hp, sw4_k (by decide) (by decide) (by decide) (by decide)⟩
  rcases ite_some h with ⟨_, h⟩ | ⟨_, h⟩
  · obtain rfl := Option.some.inj h; exact ⟨sw2_stb hP hp, sw2_k (by decide) (by decide)⟩
  rcases ite_some h with ⟨_, h⟩ | ⟨_, h⟩
  · obtain rfl := Option.some.inj h; exact ⟨sw2_stb hP hp, sw2_k (by decide) (by decide)⟩
  rcases ite_some h with ⟨_, h⟩ | ⟨_, h⟩
  · obtain rfl := Option.some.inj h; split; exact ⟨sw2_stb hP (hP.nx _ hp), sw2_k (by decide) (by decide)⟩; exact ⟨sw3_stb hP hp, sw3_k (by decide) (by decide) (by decide)⟩
  rcases ite_some h with ⟨_, h⟩ | ⟨_, h⟩
  · obtain rfl := Option.some.inj h; exact ⟨sw3_stb hP hp, sw3_k (by decide) (by decide) (by decide)⟩
  exact absurd h (by simp)
theorem letter_ident {c : Int} (h : isLetterG c = true) : identC c = true := by
  unfold identC
  rw [h]
  rfl
theorem IdR.far {t u : St} (h : IdR src t u) (hL : isLetterG t.ch = true) : IdR src (nx src t) u := by
  cases h with
  | stop h1 => rw [letter_ident hL] at h1; cases h1
  | step _ h2 => exact h2

/-- what holds behind the next rune holds behind the token (but for the newline ahead of a comment, and the comment's way back) -/
theorem TokR.stb (hP : Stb src P) {t v : St} {k : Int} {l : List UInt8} (h : TokR src t k l v) (hx : t.ch = 47 → ∀ x, CX src t false x → P x) (hb : ∀ u, t.ch = 47 → t.semi = true → FleR src (nx src t) true u → P (comBack src t u)) (hp : P (nx src t)) : P v := by
  cases h with
  | ident hL hr => exact fin_stb hP ((hr.far hL).stb hP hp)
  | num _ hn hr => exact fin_stb hP (hr.stb hP hn hp)
  | eofS => exact hP.semi _ _ hp
  | eof => exact fin_stb hP hp
  | nl => exact hP.semi _ _ hp
  | str _ hr => exact fin_stb hP (endErr_stb hP (hr.stb hP hp))
  | chr _ hr => exact fin_stb hP (runEnd_stb hP (hr.stb hP hp))
  | raw _ hr => exact fin_stb hP (rawEnd_stb hP (hr.stb hP hp))
  | sym _ _ hs => exact fin_stb hP (symT_out hP hs hp).1
  | comS h1 _ h2 h3 => exact hb _ h1 h2 h3
  | comT h1 _ hc _ hr => exact fin_stb hP (hr.stb hP (hx h1 _ (Or.inl ⟨rfl, hc⟩)))
  | ill =>
    refine fin_stb hP ?_
    split
    · exact hp
    · exact hP.err _ hp

/-! the instances -/
theorem nx_ec0 (src : List UInt8) (s : St) : s.ec ≤ (nx src s).ec := by
  unfold nx
  split
  · show s.ec ≤ s.ec + _
    omega
  · exact Nat.le_refl _
theorem stb_ec (src : List UInt8) (e : Nat) : Stb src (fun s => e ≤ s.ec) := ⟨fun s h => Nat.le_trans h (nx_ec0 src s), fun s h => Nat.le_succ_of_le h, fun _ _ h => h⟩
theorem stb_mode (src : List UInt8) (m : Int) : Stb src (fun s => s.mode = m) := ⟨fun s h => (nx_mode src s).trans h, fun _ h => h, fun _ _ h => h⟩
theorem nx_far {s : St} (hg : Good src s) : Good src (nx src s) ∧ s.off ≤ (nx src s).off := by
  refine ⟨nx_good src s hg.le.2.1, ?_⟩
  rcases hg with h | ⟨h1, h2, h3⟩
  · have := (step_of (Or.inl h) (by have := h.2.2; omega)).far
    omega
  · have : (nx src s).off = src.length := by
      unfold nx
      rw [if_neg (by omega)]
    omega
theorem stb_good (src : List UInt8) (o : Nat) : Stb src (fun s => Good src s ∧ o ≤ s.off) := ⟨fun s h => ⟨(nx_far h.1).1, Nat.le_trans h.2 (nx_far h.1).2⟩, fun s h => h, fun _ _ h => h⟩
theorem CX.kept (hP : Stb src P) (hpos : ∀ t u, P t → P u → t.ec ≤ u.ec → P { u with ch := t.ch, off := t.off, rd := t.rd }) {t x : St} {b : Bool} (h : CX src t b x) (hg : Good src t) (hch : t.ch = 47) (hp : P t) : P x := by
  have hr : t.rd = t.off + 1 ∧ (nx src t).off = t.off + 1 := by
    have hst := step_of hg (by omega)
    have ha := (Good.ascii hg 47 (by omega)).1 hch
    refine ⟨?_, hst.one (by rw [ha.2]; omega)⟩
    rcases hg with ⟨h1, h2, _⟩ | ⟨h1, _, h3⟩
    · have f := rn_facts src t.off h1
      rw [f.2.2.2.2.2 (by rw [ha.2]; omega)] at h2
      exact h2
    · omega
  have key : ∀ b u, FleR src (nx src t) b u → P (nx src (rst ((nx src t).off - 1) u)) := by
    intro b u hf
    have h1 : P u := hf.stb hP (hP.nx _ hp)
    have h2 : t.ec ≤ u.ec := hf.stb (stb_ec src t.ec) (nx_ec0 src t)
    have h3 := hpos t u hp h1 h2
    rw [hch, hr.1] at h3
    unfold rst
    rw [hr.2, Nat.add_sub_cancel]
    exact hP.nx _ h3
  rcases h with ⟨_, ⟨_, rfl⟩ | ⟨_, u, h2, rfl⟩⟩ | ⟨_, _, u, h2, rfl⟩
  · exact hP.nx _ hp
  · exact key _ _ h2
  · exact key _ _ h2
theorem rd_one {t : St} (hg : Good src t) (h1 : t.ch = 47) : t.rd = t.off + 1 := by
  have ha := (Good.ascii hg 47 (by omega)).1 h1
  rcases hg with ⟨h1, h2, _⟩ | ⟨h1, _, h3⟩
  · have f := rn_facts src t.off h1
    rw [f.2.2.2.2.2 (by rw [ha.2]; omega)] at h2
    exact h2
  · omega
theorem back_kept (hP : Stb src P) (hpos : ∀ t u, P t → P u → t.ec ≤ u.ec → P { u with ch := t.ch, off := t.off, rd := t.rd }) {t u : St} (hg : Good src t) (hp : P t) (h1 : t.ch = 47) (hs : t.semi = true) (hf : FleR src (nx src t) true u) : P (comBack src t u) := by
  have hx := CX.kept hP hpos (Or.inr ⟨rfl, hs, _, hf, rfl⟩) hg h1 hp
  have ht := hpos t _ hp hx (CX.kept (stb_ec src t.ec) (fun _ _ _ h _ => h) (Or.inr ⟨rfl, hs, _, hf, rfl⟩) hg h1 (Nat.le_refl _))
  have := hP.semi _ false ht
  unfold comBack rst
  rw [h1, rd_one hg h1] at this
  exact this
/-- what every step keeps, a token keeps -/
theorem TokR.kept (hP : Stb src P) (hpos : ∀ t u, P t → P u → t.ec ≤ u.ec → P { u with ch := t.ch, off := t.off, rd := t.rd }) {t v : St} {k : Int} {l : List UInt8} (h : TokR src t k l v) (hg : Good src t) (hp : P t) : P v :=
  h.stb hP (fun h1 x hx => hx.kept hP hpos hg h1 hp) (fun u h1 h2 h3 => back_kept hP hpos hg hp h1 h2 h3) (hP.nx _ hp)
theorem TokR.good {t v : St} {k : Int} {l : List UInt8} (h : TokR src t k l v) (hg : Good src t) : Good src v ∧ t.off ≤ v.off :=
  h.kept (stb_good src t.off) (fun t u h1 h2 _ => h1) hg ⟨hg, Nat.le_refl _⟩
theorem ScanR.kept (hP : Stb src P) (hpos : ∀ t u, P t → P u → t.ec ≤ u.ec → P { u with ch := t.ch, off := t.off, rd := t.rd }) {s v : St} {k : Int} {l : List UInt8} {o : Nat} (h : ScanR src s k l o v) : Good src s → P s → P v := by
  induction h with
  | tok h1 h2 => exact fun hg hp => h2.kept hP hpos (h1.way hg).good (h1.stb hP hp)
  | com h1 h2 _ hx _ hr _ ih =>
    intro hg hp
    have hgt := (h1.way hg).good
    have hf := CX.f (Or.inl ⟨rfl, hx⟩) hgt h2
    exact ih (hr.way hf.good).1 (hP.semi _ _ (hr.stb hP (CX.kept hP hpos (Or.inl ⟨rfl, hx⟩) hgt h2 (h1.stb hP hp))))
theorem ScanR.ec {s v : St} {k : Int} {l : List UInt8} {o : Nat} (h : ScanR src s k l o v) (hg : Good src s) : s.ec ≤ v.ec := h.kept (stb_ec src s.ec) (fun _ _ _ h _ => h) hg (Nat.le_refl _)
theorem ScanR.mode {s v : St} {k : Int} {l : List UInt8} {o : Nat} (h : ScanR src s k l o v) (hg : Good src s) : v.mode = s.mode := h.kept (stb_mode src s.mode) (fun _ _ _ h _ => h) hg rfl

/-- progress -/
def mu (n : Nat) (s : St) : Nat := 2 * (n - s.off) + (if s.semi = true then 1 else 0)
theorem mu_lt {t v : St} (h1 : t.off + 1 ≤ v.off) (h2 : v.off ≤ src.length) : mu src.length v < mu src.length t := by
  unfold mu
  have : (if v.semi = true then 1 else 0) ≤ 1 := by split <;> omega
  omega
def LitOk (src : List UInt8) (k : Int) (l : List UInt8) (o : Nat) : Prop :=
  (4 ≤ k ∧ k ≤ 7 ∨ (k = 8 ∧ l.getD 0 0 = 34)) → o + l.length ≤ src.length ∧ l = cut src o (o + l.length)
theorem lit_cut {o p : Nat} (h1 : o ≤ p) (h2 : p ≤ src.length) {k : Int} : LitOk src k (cut src o p) o := by
  intro _
  rw [cut_len src o p h2]
  exact ⟨by omega, by rw [show o + (p - o) = p by omega]⟩
theorem lookFrom_ne (s : List UInt8) : ∀ f k : Nat, 8 < k → lookFrom s f k = 4 ∨ 8 < lookFrom s f k
  | 0, _, _ => Or.inl rfl
  | f + 1, k, h => by
    unfold lookFrom
    split
    · exact Or.inr (by omega)
    · exact lookFrom_ne s f (k + 1) (by omega)
theorem lookup_ne (s : List UInt8) : lookup s = 4 ∨ 8 < lookup s := lookFrom_ne s 15 60 (by omega)
theorem fin_off (b : Bool) (u : St) : (fin b u).off = u.off ∧ (fin b u).ch = u.ch ∧ (fin b u).ec = u.ec := by
  unfold fin
  split <;> exact ⟨rfl, rfl, rfl⟩
theorem ps_good {t u : St} (h : ∃ o, o = t.off + 1 ∧ (Good src u ∧ o ≤ u.off)) : t.off ≤ u.off ∧ u.off ≤ src.length := by
  obtain ⟨o, rfl, h1, h2⟩ := h
  exact ⟨by omega, h1.le.2.2⟩
theorem numC_pos {t : St} (h : numC src t = true) : 0 ≤ t.ch := by
  have := of_decide_eq_true h
  omega
theorem letter_pos {c : Int} (h : isLetterG c = true) : 0 ≤ c := by
  have := identC_pos (letter_ident h)
  omega
theorem filt_head {t : St} {z : Nat} (ha : bt src t.off = 96) (h1 : t.off < z) (h2 : t.off < src.length) : (filt (cut src t.off z)).getD 0 0 = 96 := by
  have e : cut src t.off z = src.getD t.off 0 :: cut src (t.off + 1) z := by
    unfold cut
    obtain ⟨d, hd⟩ : ∃ d, z - t.off = d + 1 := ⟨z - t.off - 1, by omega⟩
    rw [hd, show z - (t.off + 1) = d by omega, List.drop_eq_getElem_cons h2, List.take_succ_cons]
    simp [List.getD, h2]
  have e2 : (src.getD t.off 0).toNat = 96 := ha
  rw [e]
  unfold filt
  rw [List.filter_cons_of_pos (by show decide ((src.getD t.off 0).toNat ≠ 13) = true; rw [e2]; rfl)]
  show src.getD t.off 0 = 96
  exact UInt8.toNat_inj.1 (by rw [e2]; rfl)
structure TokF (src : List UInt8) (t : St) (k : Int) (l : List UInt8) (v : St) : Prop where
  eof : k = 1 → t.ch = -1 ∧ l = [] ∧ v.ch = -1 ∧ v.off = src.length ∧ v.semi = false
  far : k ≠ 1 → mu src.length v < mu src.length t
  lit : LitOk src k l t.off
theorem nx_eof {t : St} (hg : Good src t) (h : t.ch = -1) : t.off = src.length ∧ (nx src t).ch = -1 ∧ (nx src t).off = src.length := by
  rcases hg with ⟨_, _, h3⟩ | ⟨h1, h2, h3⟩
  · omega
  · refine ⟨h1, ?_, ?_⟩
    · unfold nx
      rw [if_neg (by omega)]
    · unfold nx
      rw [if_neg (by omega)]
theorem TokR.f {t v : St} {k : Int} {l : List UInt8} (h : TokR src t k l v) (hg : Good src t) : TokF src t k l v := by
  have hv := h.good hg
  -- where the token consumes a rune
  have far : 0 ≤ t.ch → (∀ u, t.ch = 47 → t.semi = true → ¬ FleR src (nx src t) true u) → mu src.length v < mu src.length t := by
    intro hc hn
    have hst := step_of hg hc
    have h1 := h.stb (stb_good src (t.off + 1)) (fun h1 x hx => by have f := hx.f hg h1; exact ⟨f.good, by rw [f.off]; omega⟩) (fun u h1 h2 h3 => absurd h3 (hn u h1 h2)) ⟨hst.good, hst.far⟩
    exact mu_lt h1.2 h1.1.le.2.2
  have no47 : t.ch ≠ 47 → ∀ u, t.ch = 47 → t.semi = true → ¬ FleR src (nx src t) true u := fun h _ h1 => absurd h1 h
  have one : ∀ c : Nat, c < 128 → t.ch = (c : Int) → (nx src t).off - 1 = t.off ∧ bt src t.off = c ∧ t.off < src.length ∧ Good src (nx src t) ∧ t.off + 1 ≤ (nx src t).off := by
    intro c hc he
    have hst := step_of hg (by omega)
    have ha := (Good.ascii hg c hc).1 he
    have h1 := hst.one (by rw [ha.2]; omega)
    exact ⟨by omega, ha.2, ha.1, hst.good, by omega⟩
  cases h with
  | @ident u hL hr =>
    have hst := step_of hg (letter_pos hL)
    have hu := ps_good ⟨_, rfl, (hr.far hL).stb (stb_good src (t.off + 1)) ⟨hst.good, hst.far⟩⟩
    refine ⟨fun hk => ?_, fun _ => far (letter_pos hL) (fun u h1 => by rw [h1] at hL; exact absurd hL (by decide)), lit_cut hu.1 hu.2⟩
    rcases lookup_ne (cut src t.off u.off) with h | h <;> omega
  | @num u _ hL hn hr =>
    have hst := step_of hg (numC_pos hn)
    have hu := ps_good ⟨_, rfl, hr.stb (stb_good src (t.off + 1)) hn ⟨hst.good, hst.far⟩⟩
    refine ⟨fun hk => ?_, fun _ => far (numC_pos hn) (no47 ?_), lit_cut hu.1 hu.2⟩
    · obtain ⟨a, b, p, q, _, _, _, h4⟩ := hr
      rw [h4] at hk
      split at hk <;> omega
    · intro h
      have := of_decide_eq_true hn
      omega
  | eofS h1 h2 =>
    have he := nx_eof hg h1
    refine ⟨fun h => absurd h (by decide), fun _ => ?_, fun h => by omega⟩
    unfold mu
    rw [if_pos h2]
    show 2 * (src.length - (nx src t).off) + 0 < _
    rw [he.2.2]
    omega
  | eof h1 h2 =>
    have he := nx_eof hg h1
    refine ⟨fun _ => ⟨h1, rfl, by rw [(fin_off _ _).2.1]; exact he.2.1, by rw [(fin_off _ _).1]; exact he.2.2, ?_⟩, fun h => absurd rfl h, fun h => by omega⟩
    unfold fin
    split
    · rfl
    · rw [nx_semi, h2]
  | nl h1 => exact ⟨fun h => absurd h (by decide), fun _ => far (by omega) (no47 (by omega)), fun h => by omega⟩
  | @str u b h1 hr =>
    have ho := one 34 (by omega) h1
    have hu := ps_good ⟨_, rfl, hr.stb (stb_good src (t.off + 1)) ⟨ho.2.2.2.1, ho.2.2.2.2⟩⟩
    refine ⟨fun h => absurd h (by decide), fun _ => far (by omega) (no47 (by omega)), ?_⟩
    rw [ho.1]
    exact lit_cut hu.1 hu.2
  | @chr u b v n h1 hr =>
    have ho := one 39 (by omega) h1
    have hu := ps_good ⟨_, rfl, hr.stb (stb_good src (t.off + 1)) ⟨ho.2.2.2.1, ho.2.2.2.2⟩⟩
    refine ⟨fun h => absurd h (by decide), fun _ => far (by omega) (no47 (by omega)), ?_⟩
    rw [ho.1]
    exact lit_cut hu.1 hu.2
  | @raw u b h1 hr =>
    have ho := one 96 (by omega) h1
    have hu := hr.stb (stb_good src (t.off + 1)) ⟨ho.2.2.2.1, ho.2.2.2.2⟩
    refine ⟨fun h => absurd h (by decide), fun _ => far (by omega) (no47 (by omega)), ?_⟩
    rw [ho.1]
    intro h
    rw [filt_head ho.2.1 hu.2 ho.2.2.1] at h
    rcases h with h | h
    · omega
    · exact absurd h.2 (by decide)
  | sym hL hn hs =>
    have h8 := (symT_out (stb_ec src 0) hs (Nat.zero_le _)).2
    have hc : 0 ≤ t.ch := by
      rcases hg with ⟨_, _, h3⟩ | ⟨_, _, h3⟩
      · omega
      · exfalso
        unfold symT at hs
        simp [h3] at hs
    refine ⟨fun h => by simp only at h8; omega, fun _ => far hc (fun u h1 _ h3 => ?_), fun h => by simp only at h8; omega⟩
    have hno : ¬ ((nx src t).ch = 47 ∨ (nx src t).ch = 42) := by
      intro hh
      unfold symT at hs
      simp [h1, hh] at hs
    cases h3 with
    | slash h => exact hno (Or.inl h)
    | line h _ => exact hno (Or.inr h)
    | endT h _ _ _ _ => exact hno (Or.inr h)
    | more h _ _ _ _ _ => exact hno (Or.inr h)
  | comS h1 h2 h3 h4 =>
    refine ⟨fun h => absurd h (by decide), fun _ => ?_, fun h => by omega⟩
    unfold mu
    rw [if_pos h3]
    show 2 * (src.length - t.off) + 0 < _
    omega
  | comT h1 h2 h3 h4 h5 =>
    refine ⟨fun h => absurd h (by decide), fun _ => ?_, fun h => by omega⟩
    have f := CX.f (Or.inl ⟨rfl, h3⟩) hg h1
    have w := h5.way f.good
    refine mu_lt ?_ ?_
    · rw [(fin_off _ _).1]
      have := f.off
      omega
    · rw [(fin_off _ _).1]
      exact w.1.le.2.2
  | ill hL hn ho =>
    have h0 := of_decide_eq_true ho
    have hc : 0 ≤ t.ch := by
      rcases hg with ⟨_, _, h3⟩ | ⟨_, _, h3⟩
      · omega
      · exact absurd h3 h0.1
    exact ⟨fun h => absurd h (by decide), fun _ => far hc (no47 (by omega)), fun h => by omega⟩
/-- one call of Scan -/
structure ScanF (src : List UInt8) (s : St) (k : Int) (l : List UInt8) (o : Nat) (v : St) : Prop where
  good : Good src v
  lo : s.off ≤ o
  hi : o ≤ v.off
  le : o ≤ src.length
  eof : k = 1 → l = [] ∧ o = src.length ∧ v.ch = -1 ∧ v.semi = false
  far : k ≠ 1 → mu src.length v < mu src.length s
  lit : LitOk src k l o
  ec : s.ec ≤ v.ec
  mode : v.mode = s.mode
theorem mu_skip {s t : St} (h : SkipR src s t) (hg : Good src s) : mu src.length t ≤ mu src.length s := by
  have h1 := (h.way hg).lo
  have h2 := h.kp.semi
  unfold mu
  rw [h2]
  omega
theorem ScanR.f {s v : St} {k : Int} {l : List UInt8} {o : Nat} (h : ScanR src s k l o v) : Good src s → ScanF src s k l o v := by
  induction h with
  | @tok s t u k l h1 h2 =>
    intro hg
    have hw := h1.way hg
    have f := h2.f hw.good
    have g := h2.good hw.good
    have hr := ScanR.tok h1 h2
    exact ⟨g.1, hw.lo, g.2, hw.good.le.2.2, fun e => ⟨(f.eof e).2.1, (nx_eof hw.good (f.eof e).1).1, (f.eof e).2.2.1, (f.eof e).2.2.2.2⟩, fun e => Nat.lt_of_lt_of_le (f.far e) (mu_skip h1 hg), f.lit, hr.ec hg, hr.mode hg⟩
  | @com s t x u v k l txt o h1 h2 h3 hx h4 hr h5 ih =>
    intro hg
    have hw := h1.way hg
    have hf := CX.f (Or.inl ⟨rfl, hx⟩) hw.good h2
    have w := hr.way hf.good
    have f := ih w.1
    have hR := ScanR.com h1 h2 h3 hx h4 hr h5
    have hlo := hw.lo
    have hfo := hf.off
    have hfl : u.off ≤ o := f.lo
    have hm : mu src.length { u with semi := false } ≤ mu src.length s := by
      unfold mu
      show 2 * (src.length - u.off) + 0 ≤ _
      omega
    exact ⟨f.good, by omega, f.hi, f.le, f.eof, fun e => Nat.lt_of_lt_of_le (f.far e) hm, f.lit, hR.ec hg, hR.mode hg⟩
/-- behind the end: the end -/
theorem ScanR.again {s v : St} {k : Int} {l : List UInt8} {o : Nat} (h : ScanR src s k l o v) (hg : Good src s) (hc : s.ch = -1) (hs : s.semi = false) : k = 1 ∧ l = [] ∧ o = src.length ∧ v.ch = -1 ∧ v.semi = false := by
  have hw : wsp s = false := by
    unfold wsp
    rw [hc]
    simp
  have key : k = 1 := by
    cases h with
    | @com _ t x u _ _ _ txt _ h1 h2 _ _ _ _ _ =>
      have : t = s := h1.det (SkipR.stop hw)
      rw [this, hc] at h2
      exact absurd h2 (by decide)
    | @tok _ t _ _ _ h1 h2 =>
      have e : t = s := h1.det (SkipR.stop hw)
      rw [e] at h2
      cases h2 with
      | ident hL => rw [hc] at hL; exact absurd hL (by decide)
      | num _ hn => have := numC_pos hn; omega
      | eofS _ h => rw [hs] at h; cases h
      | eof => rfl
      | nl h => omega
      | str h => omega
      | chr h => omega
      | raw h => omega
      | sym _ _ h => unfold symT at h; simp [hc] at h
      | comS h => omega
      | comT h => omega
      | ill _ _ h => exact absurd hc (of_decide_eq_true h).1
  have f := h.f hg
  exact ⟨key, f.eof key⟩
end Go.Proofs.YtamfekpcoppbgaaFmt
