/-
  Scan in plain words: a token as a relation on states; what is kept on the way. No program in sight; no conditions.
-/
import Derived.Test.YtamfekpcoppbgaaFmtNumA
import Derived.Test.YtamfekpcoppbgaaFmtComA
import Derived.Test.YtamfekpcoppbgaaFmtRuneG
import Derived.Test.YtamfekpcoppbgaaFmtFleG
import Derived.Test.YtamfekpcoppbgaaFmtIdA
import Derived.Test.YtamfekpcoppbgaaFmtLookV
namespace Go.Proofs.YtamfekpcoppbgaaFmt
open Go.RowKit
set_option maxRecDepth 100000
set_option linter.unusedVariables false

/-- the mode and the owed semicolon are kept -/
structure Kp (s t : St) : Prop where
  mode : t.mode = s.mode
  semi : t.semi = s.semi
theorem Kp.refl (s : St) : Kp s s := ⟨rfl, rfl⟩
theorem Kp.trans {a b c : St} (h : Kp a b) (k : Kp b c) : Kp a c := ⟨k.mode.trans h.mode, k.semi.trans h.semi⟩
theorem nx_mode (src : List UInt8) (s : St) : (nx src s).mode = s.mode := by
  unfold nx
  split <;> rfl
theorem Kp.nx (src : List UInt8) (s : St) : Kp s (nx src s) := ⟨nx_mode src s, nx_semi src s⟩
theorem Kp.err (s : St) : Kp s (err s) := ⟨rfl, rfl⟩
theorem SkipR.kp {src : List UInt8} {s t : St} (h : SkipR src s t) : Kp s t := by
  induction h with
  | stop => exact Kp.refl _
  | @step s t h1 h2 ih => exact (Kp.nx src s).trans ih
theorem IdR.kp {src : List UInt8} {s t : St} (h : IdR src s t) : Kp s t := by
  induction h with
  | stop => exact Kp.refl _
  | @step s t h1 h2 ih => exact (Kp.nx src s).trans ih
theorem DigR.kp {src : List UInt8} {b : Int} {s t : St} (h : DigR src b s t) : Kp s t := by
  induction h with
  | stop => exact Kp.refl _
  | @step s t h1 h2 ih => exact (Kp.nx src s).trans ih
theorem numS_kp (src : List UInt8) (s : St) : Kp s (numS src s) := by
  unfold numS
  split
  · exact Kp.refl _
  · exact (Kp.nx src s).trans (Kp.nx src _)
theorem expS_kp (src : List UInt8) (s : St) : Kp s (expS src s) := by
  unfold expS
  split
  · exact Kp.nx src s
  · exact Kp.refl _
theorem expE_kp (s t : St) : Kp t (expE s t) := by
  unfold expE
  split
  · exact Kp.err _
  · exact Kp.refl _
theorem NumR.kp {src : List UInt8} {s t : St} {k : Int} (h : NumR src s k t) : Kp s t := by
  obtain ⟨a, b, p, q, h1, h2, h3, _⟩ := h
  have k1 := (numS_kp src s).trans h1.kp
  have k2 : Kp a b := by
    cases h2 with
    | yes _ hd => exact (Kp.nx src a).trans hd.kp
    | no => exact Kp.refl _
  have k3 : Kp b t := by
    cases h3 with
    | yes _ hd => exact ((Kp.nx src b).trans (expS_kp src _)).trans (hd.kp.trans (expE_kp _ _))
    | no => exact Kp.refl _
  exact (k1.trans k2).trans k3
theorem EscL.kp {src : List UInt8} {b n x : Nat} {s t : St} {r : Option Nat} (h : EscL src b n x s t r) : Kp s t := by
  induction h with
  | done => exact Kp.refl _
  | bad => exact Kp.refl _
  | @step n x s t r h1 h2 ih => exact (Kp.nx src s).trans ih
theorem EscR.kp {src : List UInt8} {q : Int} {s t : St} {ok : Bool} (h : EscR src q s t ok) : Kp s t := by
  cases h with
  | simple => exact Kp.nx src s
  | @num _ n b m k r _ _ hl =>
    cases k
    · exact hl.kp
    · exact (Kp.nx src s).trans hl.kp
  | bad => exact Kp.refl _
theorem escEnd_kp (t : St) (ok : Bool) : Kp t (escEnd t ok) := by
  unfold escEnd
  cases ok
  · exact Kp.err _
  · exact Kp.refl _
theorem StrR.kp {src : List UInt8} {s t : St} {b : Bool} (h : StrR src s t b) : Kp s t := by
  induction h with
  | stop => exact Kp.refl _
  | @shut s => exact Kp.nx src s
  | @plain s t b _ _ _ _ _ ih => exact (Kp.nx src s).trans ih
  | @esc s u t ok b _ he _ ih => exact ((Kp.nx src s).trans he.kp).trans ((escEnd_kp u ok).trans ih)
theorem endErr_kp (t : St) (b : Bool) : Kp t (endErr t b) := by
  unfold endErr
  cases b
  · exact Kp.err _
  · exact Kp.refl _
theorem RunR.kp {src : List UInt8} {s t : St} {n m : Nat} {v v' b : Bool} (h : RunR src s n v t b m v') : Kp s t := by
  induction h with
  | stop => exact Kp.refl _
  | @shut s => exact Kp.nx src s
  | @plain s t n m v v' b _ _ _ _ _ ih => exact (Kp.nx src s).trans ih
  | @esc s u t n m v v' b ok _ he _ ih => exact ((Kp.nx src s).trans he.kp).trans ((escEnd_kp u ok).trans ih)
theorem runEnd_kp (t : St) (b : Bool) (n : Nat) (v : Bool) : Kp t (runEnd t b n v) := by
  unfold runEnd
  split
  · exact Kp.err _
  · exact Kp.refl _
theorem RawR.kp {src : List UInt8} {s t : St} {b : Bool} (h : RawR src s t b) : Kp s t := by
  induction h with
  | eof => exact Kp.refl _
  | @shut s => exact Kp.nx src s
  | @step s t b _ _ _ ih => exact (Kp.nx src s).trans ih
theorem rawEnd_kp (t : St) (b : Bool) : Kp t (rawEnd t b) := by
  unfold rawEnd
  cases b
  · exact Kp.err _
  · exact Kp.refl _
theorem LnR.kp {src : List UInt8} {s t : St} (h : LnR src s t) : Kp s t := by
  induction h with
  | stop => exact Kp.refl _
  | @step s t _ _ _ ih => exact (Kp.nx src s).trans ih
theorem BkR.kp {src : List UInt8} {s t : St} {b : Bool} (h : BkR src s t b) : Kp s t := by
  induction h with
  | eof => exact Kp.refl _
  | @shut s => exact (Kp.nx src s).trans (Kp.nx src _)
  | @step s t b _ _ _ ih => exact (Kp.nx src s).trans ih
theorem ComR.kp {src : List UInt8} {s u : St} {txt : List UInt8} (h : ComR src s u txt) : Kp s u := by
  rcases h with ⟨_, h, _⟩ | ⟨_, ⟨t, b, h, rfl⟩, _⟩
  · exact (Kp.nx src s).trans h.kp
  · exact ((Kp.nx src s).trans h.kp).trans (rawEnd_kp t b)
theorem BlkN.kp {src : List UInt8} {s t : St} {k : Nat} (h : BlkN src s t k) : Kp s t := by
  induction h with
  | eof => exact Kp.refl _
  | nl => exact Kp.refl _
  | @shut s => exact (Kp.nx src s).trans (Kp.nx src _)
  | @step s t b _ _ _ _ ih => exact (Kp.nx src s).trans ih
theorem FleR.kp {src : List UInt8} {s t : St} {b : Bool} (h : FleR src s b t) : Kp s t := by
  induction h with
  | slash => exact Kp.refl _
  | other => exact Kp.refl _
  | @line s u _ hb => exact (Kp.nx src s).trans hb.kp
  | @endT s u v k _ hb _ hs _ => exact ((Kp.nx src s).trans hb.kp).trans hs.kp
  | @stopF s u v k _ hb _ hs _ _ _ => exact ((Kp.nx src s).trans hb.kp).trans hs.kp
  | @more s u v z k b _ hb _ hs _ _ ih => exact (((Kp.nx src s).trans hb.kp).trans hs.kp).trans ((Kp.nx src v).trans ih)
theorem rst_kp (p : Nat) (s : St) : Kp s (rst p s) := ⟨rfl, rfl⟩

/-- skipWhitespace comes to one end -/
theorem SkipR.det {src : List UInt8} {s t u : St} (h : SkipR src s t) (k : SkipR src s u) : t = u := by
  induction h with
  | stop h1 =>
    cases k with
    | stop => rfl
    | step h2 _ => rw [h1] at h2; cases h2
  | step h1 h2 ih =>
    cases k with
    | stop h3 => rw [h1] at h3; cases h3
    | step _ h4 => exact ih h4
theorem skip_ex (src : List UInt8) : ∀ (d : Nat) (s : St), Good src s → src.length - s.off ≤ d → ∃ t, SkipR src s t ∧ SkWay src s t := by
  intro d
  induction d with
  | zero =>
    intro s hg hd
    rcases hw : wsp s with _ | _
    · exact ⟨s, SkipR.stop hw, SkWay.refl hg⟩
    · have st := step_of hg (wsp_pos hw)
      have := st.lt
      omega
  | succ d ih =>
    intro s hg hd
    rcases hw : wsp s with _ | _
    · exact ⟨s, SkipR.stop hw, SkWay.refl hg⟩
    · have st := step_of hg (wsp_pos hw)
      have := st.lt
      have := st.far
      obtain ⟨t, h1, h2⟩ := ih (nx src s) st.good (by omega)
      have h3 := (SkWay.refl hg).next (wsp_pos hw)
      exact ⟨t, SkipR.step hw h1, ⟨h2.good, Nat.le_trans h3.off h2.off, by have := h3.ec; have := h2.ec; omega, h2.semi.trans h3.semi⟩⟩
theorem SkipR.stopped {src : List UInt8} {s t : St} (h : SkipR src s t) : wsp t = false := by
  induction h with
  | stop h => exact h
  | step _ _ ih => exact ih

/-! tokens -/
def semiTok (k : Int) : Bool := k == 4 || (k == 60 || (k == 61 || (k == 68 || (k == 69 || (k == 70 || (k == 71 || k == 73))))))
def fin (b : Bool) (u : St) : St := if (bits .and .i64 u.mode 2 == 0) = true then { u with semi := b } else u
def comSkip (m : Int) : Bool := bits .and .i64 m 1 == 0
def numC (src : List UInt8) (t : St) : Bool := decide ((48 ≤ t.ch ∧ t.ch ≤ 57) ∨ (t.ch = 46 ∧ 48 ≤ bt src t.rd ∧ bt src t.rd ≤ 57))
def runeL (c : Int) : List UInt8 := (Utf8.encode c).data.toList
abbrev Tk := Int × List UInt8 × Bool × St
def ofSw (r : Int × St) : Tk := (r.1, [], false, r.2)
def ofSwI (k : Int) (r : Int × St) : Tk := (r.1, [], r.1 == k, r.2)
/-- the operators and the marks -/
def symT (src : List UInt8) (t : St) : Option Tk :=
  let n := nx src t
  if t.ch = 58 then some (ofSw (sw2 src n 56 45)) else
  if t.ch = 46 then some (if n.ch = 46 ∧ bt src n.rd = 46 then (46, [], false, nx src (nx src n)) else (51, [], false, n)) else
  if t.ch = 44 then some (50, [], false, n) else
  if t.ch = 63 then some (57, [], false, n) else
  if t.ch = 59 then some (55, [59], false, n) else
  if t.ch = 40 then some (47, [], false, n) else
  if t.ch = 41 then some (52, [], true, n) else
  if t.ch = 91 then some (48, [], false, n) else
  if t.ch = 93 then some (53, [], true, n) else
  if t.ch = 123 then some (49, [], false, n) else
  if t.ch = 125 then some (54, [], true, n) else
  if t.ch = 43 then some (ofSwI 35 (sw3 src n 11 22 43 35)) else
  if t.ch = 45 then some (ofSwI 36 (sw3 src n 12 23 45 36)) else
  if t.ch = 42 then some (ofSw (sw2 src n 13 24)) else
  if t.ch = 47 then (if n.ch = 47 ∨ n.ch = 42 then none else some (ofSw (sw2 src n 14 25))) else
  if t.ch = 37 then some (ofSw (sw2 src n 15 26)) else
  if t.ch = 94 then some (ofSw (sw2 src n 18 29)) else
  if t.ch = 60 then some (ofSw (sw4 src n 38 43 60 19 30)) else
  if t.ch = 62 then some (ofSw (sw4 src n 39 44 62 20 31)) else
  if t.ch = 61 then some (ofSw (sw2 src n 40 37)) else
  if t.ch = 33 then some (ofSw (sw2 src n 41 42)) else
  if t.ch = 38 then some (if n.ch = 94 then ofSw (sw2 src (nx src n) 21 32) else ofSw (sw3 src n 16 27 38 33)) else
  if t.ch = 124 then some (ofSw (sw3 src n 17 28 124 34)) else none
/-- those that none of the arms names -/
def other (c : Int) : Bool := decide (c ≠ -1 ∧ c ≠ 10 ∧ c ≠ 34 ∧ c ≠ 39 ∧ c ≠ 96 ∧ c ≠ 58 ∧ c ≠ 46 ∧ c ≠ 44 ∧ c ≠ 63 ∧ c ≠ 59 ∧ c ≠ 40 ∧ c ≠ 41 ∧ c ≠ 91 ∧ c ≠ 93 ∧ c ≠ 123 ∧ c ≠ 125 ∧ c ≠ 43 ∧ c ≠ 45 ∧ c ≠ 42 ∧ c ≠ 47 ∧ c ≠ 37 ∧ c ≠ 94 ∧ c ≠ 60 ∧ c ≠ 62 ∧ c ≠ 61 ∧ c ≠ 33 ∧ c ≠ 38 ∧ c ≠ 124)
/-- where the comment's scan begins, the look-ahead done -/
def ComX (src : List UInt8) (t x : St) : Prop :=
  (t.semi = false ∧ x = nx src t) ∨ (t.semi = true ∧ ∃ u, FleR src (nx src t) false u ∧ x = nx src (rst ((nx src t).off - 1) u))
def comBack (src : List UInt8) (t u : St) : St := { rst t.off (nx src (rst ((nx src t).off - 1) u)) with semi := false }
inductive TokR (src : List UInt8) : St → Int → List UInt8 → St → Prop
  | ident {t u : St} : isLetterG t.ch = true → IdR src t u → TokR src t (lookup (cut src t.off u.off)) (cut src t.off u.off) (fin (semiTok (lookup (cut src t.off u.off))) u)
  | num {t u : St} {k : Int} : isLetterG t.ch = false → numC src t = true → NumR src t k u → TokR src t k (cut src t.off u.off) (fin true u)
  | eofS {t : St} : t.ch = -1 → t.semi = true → TokR src t 55 [10] { nx src t with semi := false }
  | eof {t : St} : t.ch = -1 → t.semi = false → TokR src t 1 [] (fin false (nx src t))
  | nl {t : St} : t.ch = 10 → TokR src t 55 [10] { nx src t with semi := false }
  | str {t u : St} {b : Bool} : t.ch = 34 → StrR src (nx src t) u b → TokR src t 8 (cut src ((nx src t).off - 1) u.off) (fin true (endErr u b))
  | chr {t u : St} {b v : Bool} {n : Nat} : t.ch = 39 → RunR src (nx src t) 0 true u b n v → TokR src t 7 (cut src ((nx src t).off - 1) u.off) (fin true (runEnd u b n v))
  | raw {t u : St} {b : Bool} : t.ch = 96 → RawR src (nx src t) u b → TokR src t 8 (filt (cut src ((nx src t).off - 1) u.off)) (fin true (rawEnd u b))
  | sym {t u : St} {k : Int} {l : List UInt8} {b : Bool} : isLetterG t.ch = false → numC src t = false → symT src t = some (k, l, b, u) → TokR src t k l (fin b u)
  | comS {t u : St} : t.ch = 47 → ((nx src t).ch = 47 ∨ (nx src t).ch = 42) → t.semi = true → FleR src (nx src t) true u → TokR src t 55 [10] (comBack src t u)
  | comT {t x u : St} {txt : List UInt8} : t.ch = 47 → ((nx src t).ch = 47 ∨ (nx src t).ch = 42) → ComX src t x → comSkip u.mode = false → ComR src x u txt → TokR src t 2 txt (fin false u)
  | ill {t : St} : isLetterG t.ch = false → numC src t = false → other t.ch = true → TokR src t 0 (runeL t.ch) (fin t.semi (if t.ch = 65279 then nx src t else err (nx src t)))
inductive ScanR (src : List UInt8) : St → Int → List UInt8 → Nat → St → Prop
  | tok {s t u : St} {k : Int} {l : List UInt8} : SkipR src s t → TokR src t k l u → ScanR src s k l t.off u
  | com {s t x u v : St} {k : Int} {l txt : List UInt8} {o : Nat} : SkipR src s t → t.ch = 47 → ((nx src t).ch = 47 ∨ (nx src t).ch = 42) → ComX src t x → comSkip u.mode = true → ComR src x u txt → ScanR src { u with semi := false } k l o v → ScanR src s k l o v
end Go.Proofs.YtamfekpcoppbgaaFmt
