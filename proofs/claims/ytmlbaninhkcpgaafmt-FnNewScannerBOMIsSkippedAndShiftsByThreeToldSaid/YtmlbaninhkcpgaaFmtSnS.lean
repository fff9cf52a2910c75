/-
  Scan in plain words: a source behind a few bytes more: the same tokens at places moved by their number. No program in sight; no conditions.
-/
import Derived.Test.YtmlbaninhkcpgaaFmtSnX
namespace Go.Proofs.YtmlbaninhkcpgaaFmt
open Go.RowKit
set_option maxRecDepth 100000
set_option linter.unusedVariables false

/-- the same state, d bytes further on -/
structure Sim (d : Nat) (s t : St) : Prop where
  ch : t.ch = s.ch
  off : t.off = s.off + d
  rd : t.rd = s.rd + d
  semi : t.semi = s.semi
  ec : t.ec = s.ec
  mode : t.mode = s.mode
/-- B is A behind d bytes -/
structure Shf (A B : List UInt8) (d : Nat) : Prop where
  len : B.length = A.length + d
  byte : ∀ i, bt B (i + d) = bt A i
  bad : ∀ i, badc B (i + d) = badc A i
  cut : ∀ j k, cut B (j + d) (k + d) = cut A j k
variable {A B : List UInt8} {d : Nat}
theorem Shf.rn (h : Shf A B d) (i : Nat) : rn B (i + d) = rn A i := by
  have h1 := h.byte i
  have h2 := h.byte (i + 1)
  have h3 := h.byte (i + 2)
  have h4 := h.byte (i + 3)
  rw [show i + 1 + d = i + d + 1 by omega] at h2
  rw [show i + 2 + d = i + d + 2 by omega] at h3
  rw [show i + 3 + d = i + d + 3 by omega] at h4
  unfold Go.Proofs.YtmlbaninhkcpgaaFmt.rn
  rw [h1, h2, h3, h4, show B.length - (i + d) = A.length - i by have := h.len; omega]
theorem Sim.nx (H : Shf A B d) {s t : St} (h : Sim d s t) : Sim d (nx A s) (nx B t) := by
  unfold Go.Proofs.YtmlbaninhkcpgaaFmt.nx
  have hl := H.len
  have hr := h.rd
  by_cases hc : s.rd < A.length
  · rw [if_pos hc, if_pos (show t.rd < B.length by omega)]
    refine ⟨?_, ?_, ?_, h.semi, ?_, h.mode⟩
    · show ((Go.Proofs.YtmlbaninhkcpgaaFmt.rn B t.rd).1 : Int) = ((Go.Proofs.YtmlbaninhkcpgaaFmt.rn A s.rd).1 : Int)
      rw [hr, H.rn]
    · exact hr
    · show t.rd + (Go.Proofs.YtmlbaninhkcpgaaFmt.rn B t.rd).2 = s.rd + (Go.Proofs.YtmlbaninhkcpgaaFmt.rn A s.rd).2 + d
      rw [hr, H.rn]
      omega
    · show t.ec + (if badc B t.rd then 1 else 0) = s.ec + (if badc A s.rd then 1 else 0)
      rw [h.ec, hr, H.bad]
  · rw [if_neg hc, if_neg (show ¬ t.rd < B.length by omega)]
    exact ⟨rfl, hl, hr, h.semi, h.ec, h.mode⟩
theorem Sim.err {s t : St} (h : Sim d s t) : Sim d (err s) (err t) := ⟨h.ch, h.off, h.rd, h.semi, by show t.ec + 1 = s.ec + 1; rw [h.ec], h.mode⟩
theorem Sim.flag {s t : St} (h : Sim d s t) (b : Bool) : Sim d { s with semi := b } { t with semi := b } := ⟨h.ch, h.off, h.rd, rfl, h.ec, h.mode⟩
theorem Sim.wsp {s t : St} (h : Sim d s t) : wsp t = wsp s := by
  unfold Go.Proofs.YtmlbaninhkcpgaaFmt.wsp
  rw [h.ch, h.semi]
theorem Sim.peek (H : Shf A B d) {s t : St} (h : Sim d s t) : bt B t.rd = bt A s.rd := by
  rw [h.rd, H.byte]
theorem SkipR.sim (H : Shf A B d) {s s' : St} (h : SkipR A s s') : ∀ {t t' : St}, Sim d s t → SkipR B t t' → Sim d s' t' := by
  induction h with
  | stop h1 =>
    intro t t' hs k
    cases k with
    | stop => exact hs
    | step h2 _ => rw [hs.wsp, h1] at h2; cases h2
  | step h1 _ ih =>
    intro t t' hs k
    cases k with
    | stop h2 => rw [hs.wsp, h1] at h2; cases h2
    | step _ h3 => exact ih (hs.nx H) h3
theorem IdR.sim (H : Shf A B d) {s s' : St} (h : IdR A s s') : ∀ {t t' : St}, Sim d s t → IdR B t t' → Sim d s' t' := by
  induction h with
  | stop h1 =>
    intro t t' hs k
    cases k with
    | stop => exact hs
    | step h2 _ => rw [hs.ch, h1] at h2; cases h2
  | step h1 _ ih =>
    intro t t' hs k
    cases k with
    | stop h2 => rw [hs.ch, h1] at h2; cases h2
    | step _ h3 => exact ih (hs.nx H) h3
theorem DigR.sim (H : Shf A B d) {b : Int} {s s' : St} (h : DigR A b s s') : ∀ {t t' : St}, Sim d s t → DigR B b t t' → Sim d s' t' := by
  induction h with
  | stop h1 =>
    intro t t' hs k
    cases k with
    | stop => exact hs
    | step h2 _ => rw [hs.ch, h1] at h2; cases h2
  | step h1 _ ih =>
    intro t t' hs k
    cases k with
    | stop h2 => rw [hs.ch, h1] at h2; cases h2
    | step _ h3 => exact ih (hs.nx H) h3
theorem Sim.numB (H : Shf A B d) {s t : St} (h : Sim d s t) : numB B t = numB A s := by
  unfold Go.Proofs.YtmlbaninhkcpgaaFmt.numB
  rw [h.ch, h.peek H]
theorem Sim.numS (H : Shf A B d) {s t : St} (h : Sim d s t) : Sim d (numS A s) (numS B t) := by
  unfold Go.Proofs.YtmlbaninhkcpgaaFmt.numS
  rw [h.numB H]
  split
  · exact h
  · exact (h.nx H).nx H
theorem Sim.expS (H : Shf A B d) {s t : St} (h : Sim d s t) : Sim d (expS A s) (expS B t) := by
  unfold Go.Proofs.YtmlbaninhkcpgaaFmt.expS
  rw [h.ch]
  split
  · exact h.nx H
  · exact h
theorem Sim.expE {s t s' t' : St} (h : Sim d s t) (k : Sim d s' t') : Sim d (expE s s') (expE t t') := by
  unfold Go.Proofs.YtmlbaninhkcpgaaFmt.expE
  have h1 := h.off
  have h2 := k.off
  by_cases hc : s.off = s'.off
  · rw [if_pos hc, if_pos (by omega)]
    exact k.err
  · rw [if_neg hc, if_neg (by omega)]
    exact k
theorem FracR.sim (H : Shf A B d) {b : Nat} {s s' t t' : St} {p q : Bool} (h : FracR A b s p s') (hs : Sim d s t) (k : FracR B b t q t') : p = q ∧ Sim d s' t' := by
  have e := hs.ch
  cases h with
  | yes h1 h2 =>
    cases k with
    | yes _ h4 => exact ⟨rfl, h2.sim H (hs.nx H) h4⟩
    | no h3 => rw [e, h1] at h3; cases h3
  | no h1 =>
    cases k with
    | yes h3 _ => rw [e, h1] at h3; cases h3
    | no _ => exact ⟨rfl, hs⟩
theorem ExpR.sim (H : Shf A B d) {s s' t t' : St} {p q : Bool} (h : ExpR A s p s') (hs : Sim d s t) (k : ExpR B t q t') : p = q ∧ Sim d s' t' := by
  have e := hs.ch
  cases h with
  | yes h1 h2 =>
    cases k with
    | yes _ h4 => exact ⟨rfl, ((hs.nx H).expS H).expE (h2.sim H ((hs.nx H).expS H) h4)⟩
    | no h3 => rw [e, h1] at h3; cases h3
  | no h1 =>
    cases k with
    | yes h3 _ => rw [e, h1] at h3; cases h3
    | no _ => exact ⟨rfl, hs⟩
theorem NumR.sim (H : Shf A B d) {s s' t t' : St} {i j : Int} (h : NumR A s i s') (hs : Sim d s t) (k : NumR B t j t') : i = j ∧ Sim d s' t' := by
  obtain ⟨a, b, p, q, h1, h2, h3, rfl⟩ := h
  obtain ⟨a', b', p', q', k1, k2, k3, rfl⟩ := k
  rw [hs.numB H] at k1 k2
  have e1 := h1.sim H (hs.numS H) k1
  obtain ⟨rfl, e2⟩ := h2.sim H e1 k2
  obtain ⟨rfl, e3⟩ := h3.sim H e2 k3
  exact ⟨rfl, e3⟩
theorem EscL.sim (H : Shf A B d) {b n x : Nat} {s s' : St} {r : Option Nat} (h : EscL A b n x s s' r) : ∀ {t t' : St} {r' : Option Nat}, Sim d s t → EscL B b n x t t' r' → r = r' ∧ Sim d s' t' := by
  induction h with
  | done =>
    intro t t' r' hs k
    cases k with
    | done => exact ⟨rfl, hs⟩
  | bad h1 =>
    intro t t' r' hs k
    have e := hs.ch
    cases k with
    | bad => exact ⟨rfl, hs⟩
    | step h2 _ => rw [e] at h2; omega
  | step h1 _ ih =>
    intro t t' r' hs k
    have e := hs.ch
    cases k with
    | bad h2 => rw [e] at h2; omega
    | step _ h3 => rw [e] at h3; exact ih (hs.nx H) h3
theorem EscR.sim (H : Shf A B d) {q : Int} {s s' t t' : St} {b b' : Bool} (h : EscR A q s s' b) (hs : Sim d s t) (k : EscR B q t t' b') : b = b' ∧ Sim d s' t' := by
  have e := hs.ch
  cases h with
  | simple h1 =>
    cases k with
    | simple => exact ⟨rfl, hs.nx H⟩
    | num h2 => rw [e, h1] at h2; cases h2
    | bad h2 => rw [e, h1] at h2; cases h2
  | @num _ n b m f r h1 h2 h3 =>
    cases k with
    | simple h4 => rw [e, h1] at h4; cases h4
    | num h4 h5 h6 =>
      rw [e, h2] at h5
      injection h5 with h5
      simp only [Prod.mk.injEq] at h5
      obtain ⟨rfl, rfl, rfl, rfl⟩ := h5
      have := h3.sim H (t := if f then Go.Proofs.YtmlbaninhkcpgaaFmt.nx B t else t) (by cases f; exact hs; exact hs.nx H) h6
      exact ⟨by rw [this.1], this.2⟩
    | bad h4 h5 => rw [e, h2] at h5; cases h5
  | bad h1 h2 =>
    cases k with
    | simple h4 => rw [e, h1] at h4; cases h4
    | num h4 h5 h6 => rw [e, h2] at h5; cases h5
    | bad => exact ⟨rfl, hs⟩
theorem Sim.escEnd {s t : St} (h : Sim d s t) (b : Bool) : Sim d (escEnd s b) (escEnd t b) := by
  cases b
  · exact h.err
  · exact h
theorem StrR.sim (H : Shf A B d) {s s' : St} {b : Bool} (h : StrR A s s' b) : ∀ {t t' : St} {b' : Bool}, Sim d s t → StrR B t t' b' → b = b' ∧ Sim d s' t' := by
  induction h with
  | stop h1 =>
    intro t t' b' hs k
    have e := hs.ch
    cases k with
    | stop => exact ⟨rfl, hs⟩
    | shut h2 => omega
    | plain h2 h3 h4 h5 => omega
    | esc h2 => omega
  | shut h1 =>
    intro t t' b' hs k
    have e := hs.ch
    cases k with
    | stop h2 => omega
    | shut => exact ⟨rfl, hs.nx H⟩
    | plain h2 h3 h4 h5 => omega
    | esc h2 => omega
  | plain h1 h2 h3 h4 _ ih =>
    intro t t' b' hs k
    have e := hs.ch
    cases k with
    | stop h5 => omega
    | shut h5 => omega
    | plain _ _ _ _ h6 => exact ih (hs.nx H) h6
    | esc h5 => omega
  | esc h1 he _ ih =>
    intro t t' b' hs k
    have e := hs.ch
    cases k with
    | stop h5 => omega
    | shut h5 => omega
    | plain h2 h3 h4 h5 h6 => omega
    | esc _ k1 k2 =>
      obtain ⟨rfl, h7⟩ := he.sim H (hs.nx H) k1
      exact ih (h7.escEnd _) k2
theorem RunR.sim (H : Shf A B d) {s s' : St} {n m : Nat} {v v' b : Bool} (h : RunR A s n v s' b m v') : ∀ {t t' : St} {b' : Bool} {m' : Nat} {w' : Bool}, Sim d s t → RunR B t n v t' b' m' w' → b = b' ∧ m = m' ∧ v' = w' ∧ Sim d s' t' := by
  induction h with
  | stop h1 =>
    intro t t' b' m' w' hs k
    have e := hs.ch
    cases k with
    | stop => exact ⟨rfl, rfl, rfl, hs⟩
    | shut h2 => omega
    | plain h2 h3 h4 h5 => omega
    | esc h2 => omega
  | shut h1 =>
    intro t t' b' m' w' hs k
    have e := hs.ch
    cases k with
    | stop h2 => omega
    | shut => exact ⟨rfl, rfl, rfl, hs.nx H⟩
    | plain h2 h3 h4 h5 => omega
    | esc h2 => omega
  | plain h1 h2 h3 h4 _ ih =>
    intro t t' b' m' w' hs k
    have e := hs.ch
    cases k with
    | stop h5 => omega
    | shut h5 => omega
    | plain _ _ _ _ h6 => exact ih (hs.nx H) h6
    | esc h5 => omega
  | esc h1 he _ ih =>
    intro t t' b' m' w' hs k
    have e := hs.ch
    cases k with
    | stop h5 => omega
    | shut h5 => omega
    | plain h2 h3 h4 h5 h6 => omega
    | esc _ k1 k2 =>
      obtain ⟨rfl, h7⟩ := he.sim H (hs.nx H) k1
      exact ih (h7.escEnd _) k2
theorem RawR.sim (H : Shf A B d) {s s' : St} {b : Bool} (h : RawR A s s' b) : ∀ {t t' : St} {b' : Bool}, Sim d s t → RawR B t t' b' → b = b' ∧ Sim d s' t' := by
  induction h with
  | eof h1 =>
    intro t t' b' hs k
    have e := hs.ch
    cases k with
    | eof => exact ⟨rfl, hs⟩
    | shut h2 => omega
    | step h2 => omega
  | shut h1 =>
    intro t t' b' hs k
    have e := hs.ch
    cases k with
    | eof h2 => omega
    | shut => exact ⟨rfl, hs.nx H⟩
    | step h2 h3 => omega
  | step h1 h2 _ ih =>
    intro t t' b' hs k
    have e := hs.ch
    cases k with
    | eof h3 => omega
    | shut h3 => omega
    | step _ _ h4 => exact ih (hs.nx H) h4
theorem LnR.sim (H : Shf A B d) {s s' : St} (h : LnR A s s') : ∀ {t t' : St}, Sim d s t → LnR B t t' → Sim d s' t' := by
  induction h with
  | stop h1 =>
    intro t t' hs k
    have e := hs.ch
    cases k with
    | stop => exact hs
    | step h2 h3 => omega
  | step h1 h2 _ ih =>
    intro t t' hs k
    have e := hs.ch
    cases k with
    | stop h3 => omega
    | step _ _ h4 => exact ih (hs.nx H) h4
theorem BkR.sim (H : Shf A B d) {s s' : St} {b : Bool} (h : BkR A s s' b) : ∀ {t t' : St} {b' : Bool}, Sim d s t → BkR B t t' b' → b = b' ∧ Sim d s' t' := by
  induction h with
  | eof h1 =>
    intro t t' b' hs k
    have e := hs.ch
    cases k with
    | eof => exact ⟨rfl, hs⟩
    | shut h2 => omega
    | step h2 => omega
  | shut h1 h2 =>
    intro t t' b' hs k
    have e := hs.ch
    have e2 := (hs.nx H).ch
    cases k with
    | eof h3 => omega
    | shut => exact ⟨rfl, (hs.nx H).nx H⟩
    | step h3 h4 => omega
  | step h1 h2 _ ih =>
    intro t t' b' hs k
    have e := hs.ch
    have e2 := (hs.nx H).ch
    cases k with
    | eof h3 => omega
    | shut h3 h4 => omega
    | step _ _ h4 => exact ih (hs.nx H) h4
theorem BlkN.sim (H : Shf A B d) {s s' : St} {n : Nat} (h : BlkN A s s' n) : ∀ {t t' : St} {n' : Nat}, Sim d s t → BlkN B t t' n' → n = n' ∧ Sim d s' t' := by
  induction h with
  | eof h1 =>
    intro t t' n' hs k
    have e := hs.ch
    cases k with
    | eof => exact ⟨rfl, hs⟩
    | nl h2 => omega
    | shut h2 => omega
    | step h2 => omega
  | nl h1 =>
    intro t t' n' hs k
    have e := hs.ch
    cases k with
    | eof => omega
    | nl h2 => exact ⟨rfl, hs⟩
    | shut h2 => omega
    | step h2 => omega
  | shut h1 h2 =>
    intro t t' n' hs k
    have e := hs.ch
    have e2 := (hs.nx H).ch
    cases k with
    | eof h3 => omega
    | nl h3 => omega
    | shut => exact ⟨rfl, (hs.nx H).nx H⟩
    | step h3 h4 h5 => omega
  | step h1 h2 h3 _ ih =>
    intro t t' n' hs k
    have e := hs.ch
    have e2 := (hs.nx H).ch
    cases k with
    | eof h4 => omega
    | nl h4 => omega
    | shut h4 h5 => omega
    | step _ _ _ h4 => exact ih (hs.nx H) h4
theorem FleR.sim (H : Shf A B d) {s s' : St} {b : Bool} (h : FleR A s b s') : ∀ {t t' : St} {b' : Bool}, Sim d s t → FleR B t b' t' → b = b' ∧ Sim d s' t' := by
  induction h with
  | slash h1 =>
    intro t t' b' hs k
    have e := hs.ch
    cases k with
    | slash => exact ⟨rfl, hs⟩
    | other h2 => omega
    | line h2 => omega
    | endT h2 => omega
    | stopF h2 => omega
    | more h2 => omega
  | other h1 h2 =>
    intro t t' b' hs k
    have e := hs.ch
    cases k with
    | slash => omega
    | other => exact ⟨rfl, hs⟩
    | line h2 => omega
    | endT h2 => omega
    | stopF h2 => omega
    | more h2 => omega
  | line h1 hb =>
    intro t t' b' hs k
    have e := hs.ch
    cases k with
    | slash => omega
    | other => omega
    | line _ kb => exact ⟨rfl, (hb.sim H (hs.nx H) kb).2⟩
    | endT _ kb hn => exact absurd (hb.sim H (hs.nx H) kb).1.symm hn
    | stopF _ kb hn => exact absurd (hb.sim H (hs.nx H) kb).1.symm hn
    | more _ kb hn => exact absurd (hb.sim H (hs.nx H) kb).1.symm hn
  | endT h1 hb hn hk hc =>
    intro t t' b' hs k
    have e := hs.ch
    cases k with
    | slash => omega
    | other => omega
    | line _ kb => exact absurd (hb.sim H (hs.nx H) kb).1 hn
    | endT _ kb _ kk => exact ⟨rfl, hk.sim H (hb.sim H (hs.nx H) kb).2 kk⟩
    | stopF _ kb _ kk => have e2 := (hk.sim H (hb.sim H (hs.nx H) kb).2 kk).ch; omega
    | more _ kb _ kk => have e2 := (hk.sim H (hb.sim H (hs.nx H) kb).2 kk).ch; omega
  | stopF h1 hb hn hk hc1 hc2 hc3 =>
    intro t t' b' hs k
    have e := hs.ch
    cases k with
    | slash => omega
    | other => omega
    | line _ kb => exact absurd (hb.sim H (hs.nx H) kb).1 hn
    | endT _ kb _ kk => have e2 := (hk.sim H (hb.sim H (hs.nx H) kb).2 kk).ch; omega
    | stopF _ kb _ kk => exact ⟨rfl, hk.sim H (hb.sim H (hs.nx H) kb).2 kk⟩
    | more _ kb _ kk => have e2 := (hk.sim H (hb.sim H (hs.nx H) kb).2 kk).ch; omega
  | more h1 hb hn hk hc _ ih =>
    intro t t' b' hs k
    have e := hs.ch
    cases k with
    | slash => omega
    | other => omega
    | line _ kb => exact absurd (hb.sim H (hs.nx H) kb).1 hn
    | endT _ kb _ kk => have e2 := (hk.sim H (hb.sim H (hs.nx H) kb).2 kk).ch; omega
    | stopF _ kb _ kk => have e2 := (hk.sim H (hb.sim H (hs.nx H) kb).2 kk).ch; omega
    | more _ kb _ kk _ kr => exact ih ((hk.sim H (hb.sim H (hs.nx H) kb).2 kk).nx H) kr
theorem Sim.rst {s t : St} (h : Sim d s t) (p : Nat) : Sim d (rst p s) (rst (p + d) t) := ⟨rfl, rfl, by show p + d + 1 = p + 1 + d; omega, h.semi, h.ec, h.mode⟩
theorem Sim.fin {s t : St} (h : Sim d s t) (b : Bool) : Sim d (fin b s) (fin b t) := by
  unfold Go.Proofs.YtmlbaninhkcpgaaFmt.fin
  by_cases hc : (bits .and .i64 s.mode 2 == 0) = true
  · rw [if_pos hc, if_pos (by rw [h.mode]; exact hc)]
    exact h.flag b
  · rw [if_neg hc, if_neg (by rw [h.mode]; exact hc)]
    exact h
theorem Sim.rawEnd {s t : St} (h : Sim d s t) (b : Bool) : Sim d (rawEnd s b) (rawEnd t b) := by
  cases b
  · exact h.err
  · exact h
theorem Sim.endErr {s t : St} (h : Sim d s t) (b : Bool) : Sim d (endErr s b) (endErr t b) := by
  cases b
  · exact h.err
  · exact h
theorem Sim.runEnd {s t : St} (h : Sim d s t) (b : Bool) (n : Nat) (v : Bool) : Sim d (runEnd s b n v) (runEnd t b n v) := by
  unfold Go.Proofs.YtmlbaninhkcpgaaFmt.runEnd
  split
  · exact h.err
  · exact h
theorem Sim.cut (H : Shf A B d) {s t s' t' : St} (h : Sim d s t) (k : Sim d s' t') : cut B t.off t'.off = cut A s.off s'.off := by
  rw [h.off, k.off, H.cut]
theorem Sim.cut1 (H : Shf A B d) {s t s' t' : St} (h : Sim d s t) (k : Sim d s' t') (h1 : 1 ≤ s.off) : Go.Proofs.YtmlbaninhkcpgaaFmt.cut B (t.off - 1) t'.off = Go.Proofs.YtmlbaninhkcpgaaFmt.cut A (s.off - 1) s'.off := by
  rw [h.off, k.off, show s.off + d - 1 = s.off - 1 + d by omega, H.cut]
theorem ComR.sim (H : Shf A B d) {s s' t t' : St} {l l' : List UInt8} (h : ComR A s s' l) (hs : Sim d s t) (h1 : 1 ≤ s.off) (k : ComR B t t' l') : l = l' ∧ Sim d s' t' := by
  have e := hs.ch
  rcases h with ⟨h2, hr, rfl⟩ | ⟨h2, ⟨a, b, hr, rfl⟩, rfl⟩
  · rcases k with ⟨k2, kr, rfl⟩ | ⟨k2, _, _⟩
    · have := hr.sim H (hs.nx H) kr
      exact ⟨by rw [hs.cut1 H this h1], this⟩
    · omega
  · rcases k with ⟨k2, kr, rfl⟩ | ⟨k2, ⟨a', b', kr, rfl⟩, rfl⟩
    · omega
    · obtain ⟨rfl, h3⟩ := hr.sim H (hs.nx H) kr
      exact ⟨by rw [hs.cut1 H (h3.rawEnd b) h1], h3.rawEnd b⟩
/-! marks and operators -/
def TkSim (d : Nat) (x y : Tk) : Prop := x.1 = y.1 ∧ x.2.1 = y.2.1 ∧ x.2.2.1 = y.2.2.1 ∧ Sim d x.2.2.2 y.2.2.2
def OpSim (d : Nat) : Option Tk → Option Tk → Prop
  | none, none => True
  | some x, some y => TkSim d x y
  | _, _ => False
theorem OpSim.ite {c : Prop} [Decidable c] {a a' b b' : Option Tk} (h1 : c → OpSim d a a') (h2 : ¬ c → OpSim d b b') : OpSim d (if c then a else b) (if c then a' else b') := by
  by_cases h : c
  · rw [if_pos h, if_pos h]
    exact h1 h
  · rw [if_neg h, if_neg h]
    exact h2 h
theorem tk_ite {c : Prop} [Decidable c] {a a' b b' : Tk} (h1 : TkSim d a a') (h2 : TkSim d b b') : TkSim d (if c then a else b) (if c then a' else b') := by
  by_cases h : c
  · rw [if_pos h, if_pos h]
    exact h1
  · rw [if_neg h, if_neg h]
    exact h2
def PrSim (d : Nat) (x y : Int × St) : Prop := x.1 = y.1 ∧ Sim d x.2 y.2
theorem pr_sw2 (H : Shf A B d) {s t : St} (h : Sim d s t) (a b : Int) : PrSim d (sw2 A s a b) (sw2 B t a b) := by
  unfold sw2
  rw [h.ch]
  split
  · exact ⟨rfl, h.nx H⟩
  · exact ⟨rfl, h⟩
theorem pr_sw3 (H : Shf A B d) {s t : St} (h : Sim d s t) (a b c e : Int) : PrSim d (sw3 A s a b c e) (sw3 B t a b c e) := by
  unfold sw3
  rw [h.ch]
  split
  · exact ⟨rfl, h.nx H⟩
  · split
    · exact ⟨rfl, h.nx H⟩
    · exact ⟨rfl, h⟩
theorem pr_sw4 (H : Shf A B d) {s t : St} (h : Sim d s t) (a b c e f : Int) : PrSim d (sw4 A s a b c e f) (sw4 B t a b c e f) := by
  unfold sw4
  rw [h.ch, (h.nx H).ch]
  split
  · exact ⟨rfl, h.nx H⟩
  · split
    · split
      · exact ⟨rfl, (h.nx H).nx H⟩
      · exact ⟨rfl, h.nx H⟩
    · exact ⟨rfl, h⟩
theorem tk_ofSw {x y : Int × St} (h : PrSim d x y) : TkSim d (ofSw x) (ofSw y) := ⟨h.1, rfl, rfl, h.2⟩
theorem tk_ofSwI {x y : Int × St} (k : Int) (h : PrSim d x y) : TkSim d (ofSwI k x) (ofSwI k y) := ⟨h.1, rfl, by show (x.1 == k) = (y.1 == k); rw [h.1], h.2⟩
set_option maxHeartbeats 1000000 in
theorem symT_sim (H : Shf A B d) {s t : St} (h : Sim d s t) : OpSim d (symT A s) (symT B t) := by
  have hn := h.nx H
  have hnn := hn.nx H
  unfold symT
  simp only [h.ch, hn.ch, hn.peek H]
  refine OpSim.ite (fun _ => tk_ofSw (pr_sw2 H hn _ _)) (fun _ => ?_)
  refine OpSim.ite (fun _ => tk_ite ⟨rfl, rfl, rfl, hnn.nx H⟩ ⟨rfl, rfl, rfl, hn⟩) (fun _ => ?_)
  refine OpSim.ite (fun _ => ⟨rfl, rfl, rfl, hn⟩) (fun _ => ?_)
  refine OpSim.ite (fun _ => ⟨rfl, rfl, rfl, hn⟩) (fun _ => ?_)
  refine OpSim.ite (fun _ => ⟨rfl, rfl, rfl, hn⟩) (fun _ => ?_)
  refine OpSim.ite (fun _ => ⟨rfl, rfl, rfl, hn⟩) (fun _ => ?_)
  refine OpSim.ite (fun _ => ⟨rfl, rfl, rfl, hn⟩) (fun _ => ?_)
  refine OpSim.ite (fun _ => ⟨rfl, rfl, rfl, hn⟩) (fun _ => ?_)
  refine OpSim.ite (fun _ => ⟨rfl, rfl, rfl, hn⟩) (fun _ => ?_)
  refine OpSim.ite (fun _ => ⟨rfl, rfl, rfl, hn⟩) (fun _ => ?_)
  refine OpSim.ite (fun _ => ⟨rfl, rfl, rfl, hn⟩) (fun _ => ?_)
  refine OpSim.ite (fun _ => tk_ofSwI _ (pr_sw3 H hn _ _ _ _)) (fun _ => ?_)
  refine OpSim.ite (fun _ => tk_ofSwI _ (pr_sw3 H hn _ _ _ _)) (fun _ => ?_)
  refine OpSim.ite (fun _ => tk_ofSw (pr_sw2 H hn _ _)) (fun _ => ?_)
  refine OpSim.ite (fun _ => OpSim.ite (fun _ => trivial) (fun _ => tk_ofSw (pr_sw2 H hn _ _))) (fun _ => ?_)
  refine OpSim.ite (fun _ => tk_ofSw (pr_sw2 H hn _ _)) (fun _ => ?_)
  refine OpSim.ite (fun _ => tk_ofSw (pr_sw2 H hn _ _)) (fun _ => ?_)
  refine OpSim.ite (fun _ => tk_ofSw (pr_sw4 H hn _ _ _ _ _)) (fun _ => ?_)
  refine OpSim.ite (fun _ => tk_ofSw (pr_sw4 H hn _ _ _ _ _)) (fun _ => ?_)
  refine OpSim.ite (fun _ => tk_ofSw (pr_sw2 H hn _ _)) (fun _ => ?_)
  refine OpSim.ite (fun _ => tk_ofSw (pr_sw2 H hn _ _)) (fun _ => ?_)
  refine OpSim.ite (fun _ => tk_ite (tk_ofSw (pr_sw2 H hnn _ _)) (tk_ofSw (pr_sw3 H hn _ _ _ _))) (fun _ => ?_)
  exact OpSim.ite (fun _ => tk_ofSw (pr_sw3 H hn _ _ _ _)) (fun _ => trivial)
/-! a token -/
/-- which arm -/
def cl (src : List UInt8) (t : St) : Nat :=
  if isLetterG t.ch = true then 1 else if numC src t = true then 2 else if t.ch = -1 then (if t.semi = true then 3 else 4) else if t.ch = 10 then 5 else if t.ch = 34 then 6 else if t.ch = 39 then 7 else if t.ch = 96 then 8
  else if t.ch = 47 ∧ ((nx src t).ch = 47 ∨ (nx src t).ch = 42) then 9 else if other t.ch = true then 10 else 11
theorem Sim.cl (H : Shf A B d) {s t : St} (h : Sim d s t) : cl B t = cl A s := by
  unfold Go.Proofs.YtmlbaninhkcpgaaFmt.cl numC
  rw [h.ch, h.semi, (h.nx H).ch, h.peek H]
theorem notL {c : Int} (h : c = -1 ∨ c = 10 ∨ c = 34 ∨ c = 39 ∨ c = 96 ∨ c = 47) : isLetterG c = false := by
  rcases h with rfl | rfl | rfl | rfl | rfl | rfl <;> decide
theorem notN {src : List UInt8} {t : St} (h : t.ch = -1 ∨ t.ch = 10 ∨ t.ch = 34 ∨ t.ch = 39 ∨ t.ch = 96 ∨ t.ch = 47) : numC src t = false := by
  unfold numC
  exact decide_eq_false (by omega)
theorem symT_ne {src : List UInt8} {t : St} {r : Tk} (h : symT src t = some r) : t.ch ≠ -1 ∧ t.ch ≠ 10 ∧ t.ch ≠ 34 ∧ t.ch ≠ 39 ∧ t.ch ≠ 96 ∧ ¬ (t.ch = 47 ∧ ((nx src t).ch = 47 ∨ (nx src t).ch = 42)) ∧ other t.ch = false := by
  refine ⟨?_, ?_, ?_, ?_, ?_, ?_, ?_⟩
  · intro e; unfold symT at h; simp [e] at h
  · intro e; unfold symT at h; simp [e] at h
  · intro e; unfold symT at h; simp [e] at h
  · intro e; unfold symT at h; simp [e] at h
  · intro e; unfold symT at h; simp [e] at h
  · rintro ⟨e, e2⟩; unfold symT at h; simp [e, e2] at h
  · rcases ho : other t.ch with _ | _
    · rfl
    · exfalso
      have hn := of_decide_eq_true ho
      unfold symT at h
      simp [hn] at h
structure Cl (src : List UInt8) (t : St) (k : Int) (l : List UInt8) (v : St) : Prop where
  c1 : cl src t = 1 → ∃ u, IdR src t u ∧ k = lookup (cut src t.off u.off) ∧ l = cut src t.off u.off ∧ v = fin (semiTok (lookup (cut src t.off u.off))) u
  c2 : cl src t = 2 → ∃ u, NumR src t k u ∧ l = cut src t.off u.off ∧ v = fin true u
  c3 : cl src t = 3 → k = 55 ∧ l = [10] ∧ v = { nx src t with semi := false }
  c4 : cl src t = 4 → k = 1 ∧ l = [] ∧ v = fin false (nx src t)
  c5 : cl src t = 5 → k = 55 ∧ l = [10] ∧ v = { nx src t with semi := false }
  c6 : cl src t = 6 → t.ch = 34 ∧ ∃ u b, StrR src (nx src t) u b ∧ k = 8 ∧ l = cut src ((nx src t).off - 1) u.off ∧ v = fin true (endErr u b)
  c7 : cl src t = 7 → t.ch = 39 ∧ ∃ u b n w, RunR src (nx src t) 0 true u b n w ∧ k = 7 ∧ l = cut src ((nx src t).off - 1) u.off ∧ v = fin true (runEnd u b n w)
  c8 : cl src t = 8 → t.ch = 96 ∧ ∃ u b, RawR src (nx src t) u b ∧ k = 8 ∧ l = filt (cut src ((nx src t).off - 1) u.off) ∧ v = fin true (rawEnd u b)
  c9 : cl src t = 9 → t.ch = 47 ∧ ((t.semi = true ∧ ∃ u, FleR src (nx src t) true u ∧ k = 55 ∧ l = [10] ∧ v = comBack src t u) ∨ (∃ x u, ComX src t x ∧ comSkip u.mode = false ∧ ComR src x u l ∧ k = 2 ∧ v = fin false u))
  c10 : cl src t = 10 → k = 0 ∧ l = runeL t.ch ∧ v = fin t.semi (if t.ch = 65279 then nx src t else err (nx src t))
  c11 : cl src t = 11 → ∃ u b, symT src t = some (k, l, b, u) ∧ v = fin b u
set_option maxHeartbeats 1000000 in
theorem TokR.cl {src : List UInt8} {t v : St} {k : Int} {l : List UInt8} (h : TokR src t k l v) : Cl src t k l v ∧ 1 ≤ Go.Proofs.YtmlbaninhkcpgaaFmt.cl src t ∧ Go.Proofs.YtmlbaninhkcpgaaFmt.cl src t ≤ 11 := by
  have key : ∀ n, 1 ≤ n → n ≤ 11 → Go.Proofs.YtmlbaninhkcpgaaFmt.cl src t = n → (Go.Proofs.YtmlbaninhkcpgaaFmt.cl src t = n → Cl src t k l v) → Cl src t k l v ∧ 1 ≤ Go.Proofs.YtmlbaninhkcpgaaFmt.cl src t ∧ Go.Proofs.YtmlbaninhkcpgaaFmt.cl src t ≤ 11 := fun n h1 h2 h3 h4 => ⟨h4 h3, by omega, by omega⟩
  have mk : ∀ n, Go.Proofs.YtmlbaninhkcpgaaFmt.cl src t = n → ∀ m, m ≠ n → Go.Proofs.YtmlbaninhkcpgaaFmt.cl src t = m → False := fun n h1 m h2 h3 => h2 (h3.symm.trans h1)
  cases h with
  | @ident u hL hr =>
    refine key 1 (by omega) (by omega) (by unfold Go.Proofs.YtmlbaninhkcpgaaFmt.cl; rw [if_pos hL]) (fun e => ?_)
    refine ⟨fun _ => ⟨u, hr, rfl, rfl, rfl⟩, ?_, ?_, ?_, ?_, ?_, ?_, ?_, ?_, ?_, ?_⟩ <;> (intro e2; omega)
  | @num u k hL hn hr =>
    refine key 2 (by omega) (by omega) (by unfold Go.Proofs.YtmlbaninhkcpgaaFmt.cl; rw [if_neg (by rw [hL]; decide), if_pos hn]) (fun e => ?_)
    refine ⟨?_, fun _ => ⟨u, hr, rfl, rfl⟩, ?_, ?_, ?_, ?_, ?_, ?_, ?_, ?_, ?_⟩ <;> (intro e2; omega)
  | eofS h1 h2 =>
    refine key 3 (by omega) (by omega) (by unfold Go.Proofs.YtmlbaninhkcpgaaFmt.cl; rw [if_neg (by rw [notL (Or.inl h1)]; decide), if_neg (by rw [notN (Or.inl h1)]; decide), if_pos h1, if_pos h2]) (fun e => ?_)
    refine ⟨?_, ?_, fun _ => ⟨rfl, rfl, rfl⟩, ?_, ?_, ?_, ?_, ?_, ?_, ?_, ?_⟩ <;> (intro e2; omega)
  | eof h1 h2 =>
    refine key 4 (by omega) (by omega) (by unfold Go.Proofs.YtmlbaninhkcpgaaFmt.cl; rw [if_neg (by rw [notL (Or.inl h1)]; decide), if_neg (by rw [notN (Or.inl h1)]; decide), if_pos h1, if_neg (by rw [h2]; decide)]) (fun e => ?_)
    refine ⟨?_, ?_, ?_, fun _ => ⟨rfl, rfl, rfl⟩, ?_, ?_, ?_, ?_, ?_, ?_, ?_⟩ <;> (intro e2; omega)
  | nl h1 =>
    refine key 5 (by omega) (by omega) (by unfold Go.Proofs.YtmlbaninhkcpgaaFmt.cl; rw [if_neg (by rw [notL (by omega)]; decide), if_neg (by rw [notN (by omega)]; decide), if_neg (by omega), if_pos h1]) (fun e => ?_)
    refine ⟨?_, ?_, ?_, ?_, fun _ => ⟨rfl, rfl, rfl⟩, ?_, ?_, ?_, ?_, ?_, ?_⟩ <;> (intro e2; omega)
  | @str u b h1 hr =>
    refine key 6 (by omega) (by omega) (by unfold Go.Proofs.YtmlbaninhkcpgaaFmt.cl; rw [if_neg (by rw [notL (by omega)]; decide), if_neg (by rw [notN (by omega)]; decide), if_neg (by omega), if_neg (by omega), if_pos h1]) (fun e => ?_)
    refine ⟨?_, ?_, ?_, ?_, ?_, fun _ => ⟨h1, u, b, hr, rfl, rfl, rfl⟩, ?_, ?_, ?_, ?_, ?_⟩ <;> (intro e2; omega)
  | @chr u b w n h1 hr =>
    refine key 7 (by omega) (by omega) (by unfold Go.Proofs.YtmlbaninhkcpgaaFmt.cl; rw [if_neg (by rw [notL (by omega)]; decide), if_neg (by rw [notN (by omega)]; decide), if_neg (by omega), if_neg (by omega), if_neg (by omega), if_pos h1]) (fun e => ?_)
    refine ⟨?_, ?_, ?_, ?_, ?_, ?_, fun _ => ⟨h1, u, b, n, w, hr, rfl, rfl, rfl⟩, ?_, ?_, ?_, ?_⟩ <;> (intro e2; omega)
  | @raw u b h1 hr =>
    refine key 8 (by omega) (by omega) (by unfold Go.Proofs.YtmlbaninhkcpgaaFmt.cl; rw [if_neg (by rw [notL (by omega)]; decide), if_neg (by rw [notN (by omega)]; decide), if_neg (by omega), if_neg (by omega), if_neg (by omega), if_neg (by omega), if_pos h1]) (fun e => ?_)
    refine ⟨?_, ?_, ?_, ?_, ?_, ?_, ?_, fun _ => ⟨h1, u, b, hr, rfl, rfl, rfl⟩, ?_, ?_, ?_⟩ <;> (intro e2; omega)
  | @sym u k l b hL hn hs =>
    have f := symT_ne hs
    refine key 11 (by omega) (by omega) (by unfold Go.Proofs.YtmlbaninhkcpgaaFmt.cl; rw [if_neg (by rw [hL]; decide), if_neg (by rw [hn]; decide), if_neg f.1, if_neg f.2.1, if_neg f.2.2.1, if_neg f.2.2.2.1, if_neg f.2.2.2.2.1, if_neg f.2.2.2.2.2.1, if_neg (by rw [f.2.2.2.2.2.2]; decide)]) (fun e => ?_)
    refine ⟨?_, ?_, ?_, ?_, ?_, ?_, ?_, ?_, ?_, ?_, fun _ => ⟨u, b, hs, rfl⟩⟩ <;> (intro e2; omega)
  | @comS u h1 h2 h3 h4 =>
    refine key 9 (by omega) (by omega) (by unfold Go.Proofs.YtmlbaninhkcpgaaFmt.cl; rw [if_neg (by rw [notL (by omega)]; decide), if_neg (by rw [notN (by omega)]; decide), if_neg (by omega), if_neg (by omega), if_neg (by omega), if_neg (by omega), if_neg (by omega), if_pos ⟨h1, h2⟩]) (fun e => ?_)
    refine ⟨?_, ?_, ?_, ?_, ?_, ?_, ?_, ?_, fun _ => ⟨h1, Or.inl ⟨h3, u, h4, rfl, rfl, rfl⟩⟩, ?_, ?_⟩ <;> (intro e2; omega)
  | @comT x u _ h1 h2 h3 h4 h5 =>
    refine key 9 (by omega) (by omega) (by unfold Go.Proofs.YtmlbaninhkcpgaaFmt.cl; rw [if_neg (by rw [notL (by omega)]; decide), if_neg (by rw [notN (by omega)]; decide), if_neg (by omega), if_neg (by omega), if_neg (by omega), if_neg (by omega), if_neg (by omega), if_pos ⟨h1, h2⟩]) (fun e => ?_)
    refine ⟨?_, ?_, ?_, ?_, ?_, ?_, ?_, ?_, fun _ => ⟨h1, Or.inr ⟨x, u, h3, h4, h5, rfl, rfl⟩⟩, ?_, ?_⟩ <;> (intro e2; omega)
  | ill hL hn ho =>
    have f := of_decide_eq_true ho
    refine key 10 (by omega) (by omega) (by unfold Go.Proofs.YtmlbaninhkcpgaaFmt.cl; rw [if_neg (by rw [hL]; decide), if_neg (by rw [hn]; decide), if_neg f.1, if_neg f.2.1, if_neg f.2.2.1, if_neg f.2.2.2.1, if_neg f.2.2.2.2.1, if_neg (by omega), if_pos ho]) (fun e => ?_)
    refine ⟨?_, ?_, ?_, ?_, ?_, ?_, ?_, ?_, ?_, fun _ => ⟨rfl, rfl, rfl⟩, ?_⟩ <;> (intro e2; omega)
theorem step_one {src : List UInt8} {t : St} (hg : Good src t) (c : Nat) (hc : c < 128) (he : t.ch = (c : Int)) : 1 ≤ (nx src t).off ∧ (nx src t).off = t.off + 1 := by
  have hst := step_of hg (by omega)
  have ha := (Good.ascii hg c hc).1 he
  have h1 := hst.one (by rw [ha.2]; omega)
  exact ⟨by omega, h1⟩
theorem ComX.sim (H : Shf A B d) {s x t y : St} (hg : Good A s) (hch : s.ch = 47) (h : ComX A s x) (hs : Sim d s t) (k : ComX B t y) : Sim d x y := by
  have o1 := step_one hg 47 (by omega) hch
  have e := hs.semi
  rcases h with ⟨h1, rfl⟩ | ⟨h1, u, h2, rfl⟩
  · rcases k with ⟨k1, rfl⟩ | ⟨k1, _⟩
    · exact hs.nx H
    · rw [e, h1] at k1; cases k1
  · rcases k with ⟨k1, _⟩ | ⟨k1, u', k2, rfl⟩
    · rw [e, h1] at k1; cases k1
    · have hu := (h2.sim H (hs.nx H) k2).2
      have := hu.rst ((nx A s).off - 1)
      rw [show (nx A s).off - 1 + d = (nx B t).off - 1 by have := (hs.nx H).off; omega] at this
      exact this.nx H
set_option maxHeartbeats 1000000 in
theorem TokR.sim (H : Shf A B d) {s s' t t' : St} {k k' : Int} {l l' : List UInt8} (h : TokR A s k l s') (hg : Good A s) (hs : Sim d s t) (h2 : TokR B t k' l' t') : k = k' ∧ l = l' ∧ Sim d s' t' := by
  obtain ⟨c, c1, c2⟩ := h.cl
  obtain ⟨c', _, _⟩ := h2.cl
  have ec := hs.cl H
  have hn := hs.nx H
  obtain ⟨n, hcn⟩ : ∃ n, Go.Proofs.YtmlbaninhkcpgaaFmt.cl A s = n := ⟨_, rfl⟩
  rw [hcn] at ec c1 c2
  have hcase : n = 1 ∨ n = 2 ∨ n = 3 ∨ n = 4 ∨ n = 5 ∨ n = 6 ∨ n = 7 ∨ n = 8 ∨ n = 9 ∨ n = 10 ∨ n = 11 := by omega
  rcases hcase with rfl | rfl | rfl | rfl | rfl | rfl | rfl | rfl | rfl | rfl | rfl
  · obtain ⟨u, hr, rfl, rfl, rfl⟩ := c.c1 hcn
    obtain ⟨u', kr, rfl, rfl, rfl⟩ := c'.c1 ec
    have hu := hr.sim H hs kr
    have e := hs.cut H hu
    rw [e]
    exact ⟨rfl, rfl, hu.fin _⟩
  · obtain ⟨u, hr, rfl, rfl⟩ := c.c2 hcn
    obtain ⟨u', kr, rfl, rfl⟩ := c'.c2 ec
    obtain ⟨rfl, hu⟩ := hr.sim H hs kr
    exact ⟨rfl, (hs.cut H hu).symm, hu.fin _⟩
  · obtain ⟨rfl, rfl, rfl⟩ := c.c3 hcn
    obtain ⟨rfl, rfl, rfl⟩ := c'.c3 ec
    exact ⟨rfl, rfl, hn.flag _⟩
  · obtain ⟨rfl, rfl, rfl⟩ := c.c4 hcn
    obtain ⟨rfl, rfl, rfl⟩ := c'.c4 ec
    exact ⟨rfl, rfl, hn.fin _⟩
  · obtain ⟨rfl, rfl, rfl⟩ := c.c5 hcn
    obtain ⟨rfl, rfl, rfl⟩ := c'.c5 ec
    exact ⟨rfl, rfl, hn.flag _⟩
  · obtain ⟨hc, u, b, hr, rfl, rfl, rfl⟩ := c.c6 hcn
    obtain ⟨_, u', b', kr, rfl, rfl, rfl⟩ := c'.c6 ec
    obtain ⟨rfl, hu⟩ := hr.sim H hn kr
    exact ⟨rfl, (hn.cut1 H hu (step_one hg 34 (by omega) hc).1).symm, (hu.endErr _).fin _⟩
  · obtain ⟨hc, u, b, m, w, hr, rfl, rfl, rfl⟩ := c.c7 hcn
    obtain ⟨_, u', b', m', w', kr, rfl, rfl, rfl⟩ := c'.c7 ec
    obtain ⟨rfl, rfl, rfl, hu⟩ := hr.sim H hn kr
    exact ⟨rfl, (hn.cut1 H hu (step_one hg 39 (by omega) hc).1).symm, (hu.runEnd _ _ _).fin _⟩
  · obtain ⟨hc, u, b, hr, rfl, rfl, rfl⟩ := c.c8 hcn
    obtain ⟨_, u', b', kr, rfl, rfl, rfl⟩ := c'.c8 ec
    obtain ⟨rfl, hu⟩ := hr.sim H hn kr
    refine ⟨rfl, ?_, (hu.rawEnd _).fin _⟩
    rw [hn.cut1 H hu (step_one hg 96 (by omega) hc).1]
  · obtain ⟨hc, hh⟩ := c.c9 hcn
    obtain ⟨_, kk⟩ := c'.c9 ec
    have o1 := step_one hg 47 (by omega) hc
    have e := hs.semi
    have eo := hn.off
    rcases hh with ⟨h1, u, hr, rfl, rfl, rfl⟩ | ⟨x, u, hx, hm, hr, rfl, rfl⟩
    · rcases kk with ⟨k1, u', kr, rfl, rfl, rfl⟩ | ⟨x', u', kx, km, kr, rfl, rfl⟩
      · have hu := (hr.sim H hn kr).2
        refine ⟨rfl, rfl, ?_⟩
        unfold comBack
        have h3 := hu.rst ((nx A s).off - 1)
        rw [show (nx A s).off - 1 + d = (nx B t).off - 1 by omega] at h3
        have h4 := (h3.nx H).rst s.off
        rw [show s.off + d = t.off from hs.off.symm] at h4
        exact h4.flag false
      · rcases kx with ⟨k1, _⟩ | ⟨_, z, kz, _⟩
        · rw [e, h1] at k1; cases k1
        · exact absurd (hr.sim H hn kz).1 (by decide)
    · rcases kk with ⟨k1, u', kr, rfl, rfl, rfl⟩ | ⟨x', u', kx, km, kr, rfl, rfl⟩
      · rcases hx with ⟨h1, _⟩ | ⟨_, z, hz, _⟩
        · rw [e, h1] at k1; cases k1
        · exact absurd (hz.sim H hn kr).1 (by decide)
      · have hxx := ComX.sim H hg hc hx hs kx
        have f := CX.f (Or.inl ⟨rfl, hx⟩) hg hc
        obtain ⟨rfl, hu⟩ := hr.sim H hxx (by have := f.off; omega) kr
        exact ⟨rfl, rfl, hu.fin _⟩
  · obtain ⟨rfl, rfl, rfl⟩ := c.c10 hcn
    obtain ⟨rfl, rfl, rfl⟩ := c'.c10 ec
    rw [hs.ch, hs.semi]
    refine ⟨rfl, rfl, Sim.fin ?_ _⟩
    split
    · exact hn
    · exact hn.err
  · obtain ⟨u, b, hr, rfl⟩ := c.c11 hcn
    obtain ⟨u', b', kr, rfl⟩ := c'.c11 ec
    have hS := symT_sim H hs
    rw [hr, kr] at hS
    obtain ⟨rfl, rfl, e3, hu⟩ := hS
    simp only at e3 hu
    rw [e3]
    exact ⟨rfl, rfl, hu.fin _⟩
/-- one call of Scan over both -/
theorem ScanR.sim (H : Shf A B d) {s v : St} {k : Int} {l : List UInt8} {o : Nat} (h : ScanR A s k l o v) : ∀ {t v' : St} {k' : Int} {l' : List UInt8} {o' : Nat}, Good A s → Sim d s t → ScanR B t k' l' o' v' → k = k' ∧ l = l' ∧ o' = o + d ∧ Sim d v v' := by
  induction h with
  | @tok s x u k l h1 h2 =>
    intro t v' k' l' o' hg hs kk
    have hgx := (h1.way hg).good
    cases kk with
    | tok k1 k2 =>
      have hx := h1.sim H hs k1
      obtain ⟨rfl, rfl, hu⟩ := h2.sim H hgx hx k2
      exact ⟨rfl, rfl, hx.off, hu⟩
    | com k1 k2 k3 kx km kc _ =>
      exfalso
      have hx := h1.sim H hs k1
      have hn := hx.nx H
      obtain ⟨c, _, _⟩ := h2.cl
      have e1 : x.ch = 47 := by rw [← hx.ch]; exact k2
      have e2 : (nx A x).ch = 47 ∨ (nx A x).ch = 42 := by rw [← hn.ch]; exact k3
      have e9 : Go.Proofs.YtmlbaninhkcpgaaFmt.cl A x = 9 := by unfold Go.Proofs.YtmlbaninhkcpgaaFmt.cl; rw [if_neg (by rw [notL (by omega)]; decide), if_neg (by rw [notN (by omega)]; decide), if_neg (by omega), if_neg (by omega), if_neg (by omega), if_neg (by omega), if_neg (by omega), if_pos ⟨e1, e2⟩]
      obtain ⟨_, hh⟩ := c.c9 e9
      rcases hh with ⟨h3, z, hz, _⟩ | ⟨y, z, hy, hm, hc, _⟩
      · rcases kx with ⟨k4, _⟩ | ⟨_, y, ky, _⟩
        · rw [hx.semi, h3] at k4; cases k4
        · exact absurd (hz.sim H hn ky).1 (by decide)
      · have hyy := ComX.sim H hgx e1 hy hx kx
        have f := CX.f (Or.inl ⟨rfl, hy⟩) hgx e1
        have hu := (hc.sim H hyy (by have := f.off; omega) kc).2
        rw [hu.mode, hm] at km
        cases km
  | @com s x y u v k l txt o h1 h2 h3 hx h4 hr _ ih =>
    intro t v' k' l' o' hg hs kk
    have hgx := (h1.way hg).good
    have f := CX.f (Or.inl ⟨rfl, hx⟩) hgx h2
    cases kk with
    | tok k1 k2 =>
      exfalso
      have hxx := h1.sim H hs k1
      have hn := hxx.nx H
      obtain ⟨c, _, _⟩ := k2.cl
      have e9 : Go.Proofs.YtmlbaninhkcpgaaFmt.cl A x = 9 := by unfold Go.Proofs.YtmlbaninhkcpgaaFmt.cl; rw [if_neg (by rw [notL (by omega)]; decide), if_neg (by rw [notN (by omega)]; decide), if_neg (by omega), if_neg (by omega), if_neg (by omega), if_neg (by omega), if_neg (by omega), if_pos ⟨h2, h3⟩]
      obtain ⟨_, hh⟩ := c.c9 ((hxx.cl H).trans e9)
      rcases hh with ⟨k3, z, kz, _⟩ | ⟨y', z, ky, km, kc, _⟩
      · rcases hx with ⟨h5, _⟩ | ⟨_, y, hy, _⟩
        · rw [hxx.semi, h5] at k3; cases k3
        · exact absurd (hy.sim H hn kz).1 (by decide)
      · have hyy := ComX.sim H hgx h2 hx hxx ky
        have hu := (hr.sim H hyy (by have := f.off; omega) kc).2
        rw [hu.mode, h4] at km
        cases km
    | com k1 k2 k3 kx km kc kr =>
      have hxx := h1.sim H hs k1
      have hyy := ComX.sim H hgx h2 hx hxx kx
      have hu := (hr.sim H hyy (by have := f.off; omega) kc).2
      exact ih (hr.way f.good).1 (hu.flag false) kr
/-! one source: Scan comes to one end -/
theorem Shf.same (A : List UInt8) : Shf A A 0 := ⟨rfl, fun _ => rfl, fun _ => rfl, fun _ _ => rfl⟩
theorem Sim.same (s : St) : Sim 0 s s := ⟨rfl, rfl, rfl, rfl, rfl, rfl⟩
end Go.Proofs.YtmlbaninhkcpgaaFmt
