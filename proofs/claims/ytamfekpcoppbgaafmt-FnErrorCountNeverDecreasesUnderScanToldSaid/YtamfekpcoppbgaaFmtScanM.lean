/-
  A plain model of the scanner: its state and one step of next over a list of bytes. No program in sight; no conditions.
-/
import Derived.Lib.DecodeN
import Derived.Shelf.Unicode.DecodeSlow
namespace Go.Proofs.YtamfekpcoppbgaaFmt

/-- byte i of the source, 0 beyond its end -/
def bt (src : List UInt8) (i : Nat) : Nat := (src.getD i 0).toNat
/-- the rune that begins at byte i, and its width -/
def rn (src : List UInt8) (i : Nat) : Nat × Nat := Lib.decodeN (src.length - i) (bt src i) (bt src (i + 1)) (bt src (i + 2)) (bt src (i + 3))
/-- NUL, an invalid byte, a byte order mark that is not the first byte -/
def badc (src : List UInt8) (i : Nat) : Bool := decide ((rn src i).1 = 0 ∨ ((rn src i).1 = 65533 ∧ (rn src i).2 = 1) ∨ ((rn src i).1 = 65279 ∧ 0 < i))

structure St where
  ch : Int
  off : Nat
  rd : Nat
  lo : Nat
  semi : Bool
  ec : Nat
  mode : Int
  lines : List Nat

def lastLt (lines : List Nat) (o : Nat) : Bool := decide (lines = [] ∨ lines.getD (lines.length - 1) 0 < o)
def addLine (n o : Nat) (lines : List Nat) : List Nat := if lastLt lines o = true ∧ o < n then lines ++ [o] else lines
/-- the part of next that records a new line -/
def nl (n o : Nat) (s : St) : St := { s with lo := if s.ch = 10 then o else s.lo, lines := if s.ch = 10 then addLine n o s.lines else s.lines }
/-- one step -/
def nx (src : List UInt8) (s : St) : St :=
  if s.rd < src.length then
    { nl src.length s.rd s with off := s.rd, rd := s.rd + (rn src s.rd).2, ch := ((rn src s.rd).1 : Int), ec := s.ec + (if badc src s.rd then 1 else 0) }
  else { nl src.length src.length s with off := src.length, ch := -1 }

def nxs (src : List UInt8) : Nat → St → St
  | 0, s => s
  | k + 1, s => nxs src k (nx src s)
theorem nxs_succ (src : List UInt8) : ∀ (k : Nat) (s : St), nxs src (k + 1) s = nx src (nxs src k s)
  | 0, _ => rfl
  | k + 1, s => by
    show nxs src (k + 1) (nx src s) = _
    rw [nxs_succ src k (nx src s)]
    rfl

/-- the scanner as it is made, ahead of its first step -/
def st0 (m : Int) : St := { ch := 32, off := 0, rd := 0, lo := 0, semi := false, ec := 0, mode := m, lines := [0] }
/-- the scanner that NewScanner hands out -/
def stNew (src : List UInt8) (m : Int) : St := if (nx src (st0 m)).ch = 65279 then nx src (nx src (st0 m)) else nx src (st0 m)

theorem bt_lt (src : List UInt8) (i : Nat) : bt src i < 256 := UInt8.toNat_lt _
theorem decodeN_facts (n b0 b1 b2 b3 : Nat) (hn : 1 ≤ n) (h0 : b0 < 256) :
    1 ≤ (Lib.decodeN n b0 b1 b2 b3).2 ∧ (Lib.decodeN n b0 b1 b2 b3).2 ≤ 4 ∧ (Lib.decodeN n b0 b1 b2 b3).2 ≤ n ∧ (Lib.decodeN n b0 b1 b2 b3).1 ≤ 1114111 ∧
      (128 ≤ b0 → 128 ≤ (Lib.decodeN n b0 b1 b2 b3).1) ∧ (b0 < 128 → Lib.decodeN n b0 b1 b2 b3 = (b0, 1)) ∧
      ((Lib.decodeN n b0 b1 b2 b3).1 = 65279 → b0 = 239 ∧ (1 < n ∧ b1 / 64 = 2 ∧ b1 % 64 = 59) ∧ (2 < n ∧ b2 / 64 = 2 ∧ b2 % 64 = 63) ∧ (Lib.decodeN n b0 b1 b2 b3).2 = 3) := by
  unfold Lib.decodeN
  repeat' split
  all_goals refine ⟨?_, ?_, ?_, ?_, ?_, ?_, ?_⟩
  all_goals first | omega | (intro h; first | omega | (exfalso; omega) | rfl | (simp at h ⊢; omega)) | (simp; omega)

theorem rn_facts (src : List UInt8) (i : Nat) (h : i < src.length) :
    1 ≤ (rn src i).2 ∧ (rn src i).2 ≤ 4 ∧ i + (rn src i).2 ≤ src.length ∧ (rn src i).1 ≤ 1114111 ∧ (128 ≤ bt src i → 128 ≤ (rn src i).1) ∧ (bt src i < 128 → rn src i = (bt src i, 1)) := by
  have := decodeN_facts (src.length - i) (bt src i) (bt src (i + 1)) (bt src (i + 2)) (bt src (i + 3)) (by omega) (bt_lt _ _)
  unfold rn
  refine ⟨this.1, this.2.1, ?_, this.2.2.2.1, this.2.2.2.2.1, this.2.2.2.2.2.1⟩
  have := this.2.2.1
  omega

/-- a state that next has left: it stands on a rune, or at the end -/
def Good (src : List UInt8) (s : St) : Prop :=
  (s.off < src.length ∧ s.rd = s.off + (rn src s.off).2 ∧ s.ch = ((rn src s.off).1 : Int)) ∨ (s.off = src.length ∧ s.rd = src.length ∧ s.ch = -1)

theorem nx_good (src : List UInt8) (s : St) (h : s.rd ≤ src.length) : Good src (nx src s) := by
  unfold nx
  by_cases hr : s.rd < src.length
  · rw [if_pos hr]
    exact Or.inl ⟨hr, rfl, rfl⟩
  · rw [if_neg hr]
    exact Or.inr ⟨rfl, by show s.rd = _; omega, rfl⟩
theorem Good.le {src : List UInt8} {s : St} (h : Good src s) : s.off ≤ s.rd ∧ s.rd ≤ src.length ∧ s.off ≤ src.length := by
  rcases h with ⟨h1, h2, _⟩ | ⟨h1, h2, _⟩
  · have := rn_facts src s.off h1
    omega
  · omega
theorem nxs_good (src : List UInt8) : ∀ (k : Nat) (s : St), Good src s → Good src (nxs src k s)
  | 0, _, h => h
  | k + 1, s, h => nxs_good src k (nx src s) (nx_good src s h.le.2.1)
theorem stNew_good (src : List UInt8) (m : Int) : Good src (stNew src m) := by
  have h0 : Good src (nx src (st0 m)) := nx_good src _ (Nat.zero_le _)
  unfold stNew
  split
  · exact nx_good src _ h0.le.2.1
  · exact h0

/-- the byte under the scanner, where it is ASCII -/
theorem Good.ascii {src : List UInt8} {s : St} (h : Good src s) (c : Nat) (hc : c < 128) : (s.ch = (c : Int)) ↔ (s.off < src.length ∧ bt src s.off = c) := by
  rcases h with ⟨h1, h2, h3⟩ | ⟨h1, h2, h3⟩
  · have f := rn_facts src s.off h1
    constructor
    · intro he
      refine ⟨h1, ?_⟩
      rw [h3] at he
      have : (rn src s.off).1 = c := by omega
      by_cases hb : bt src s.off < 128
      · have e := f.2.2.2.2.2 hb
        rw [e] at this
        exact this
      · have := f.2.2.2.2.1 (by omega)
        omega
    · rintro ⟨_, he⟩
      have e := f.2.2.2.2.2 (by omega)
      rw [h3, e, he]
  · constructor
    · intro he
      omega
    · rintro ⟨he, _⟩
      omega

/-! the bridge to the library's decoder -/
theorem decode_bridge (src : List UInt8) (i : Nat) (h : i < src.length) : Lib.decodeGo ⟨(src.drop i).toArray⟩ = rn src i := by
  have hs : (⟨(src.drop i).toArray⟩ : ByteArray).size = src.length - i := by simp [ByteArray.size]
  have hg : ∀ j, (⟨(src.drop i).toArray⟩ : ByteArray).get! j = src.getD (i + j) 0 := by
    intro j
    show (src.drop i).toArray.getD j default = _
    simp [Array.getD, List.getD]
    by_cases hj : j < src.length - i
    · rw [dif_pos hj, List.getElem?_eq_getElem (by omega)]
      simp
    · rw [dif_neg hj, List.getElem?_eq_none (by omega)]
      rfl
  unfold Lib.decodeGo rn
  rw [if_neg (by rw [hs]; omega), Lib.decode_at, hs, hg, hg, hg, hg]
  rfl

end Go.Proofs.YtamfekpcoppbgaaFmt
