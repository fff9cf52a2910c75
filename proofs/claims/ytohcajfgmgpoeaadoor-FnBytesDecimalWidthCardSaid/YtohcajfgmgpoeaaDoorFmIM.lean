/-
  What fmtInteger writes, in plain words. No conditions.
-/
import Derived.Test.YtohcajfgmgpoeaaDoorFmM
namespace Go.Proofs.YtohcajfgmgpoeaaDoor
open Go.RowKit
set_option maxRecDepth 100000
set_option linter.unusedVariables false


/-- the wanted count of digits -/
def precI (fl : Fl) : Int := if fl.pp = true then (fl.prec : Int) else if fl.ze = true ∧ fl.wp = true then (fl.wid : Int) - (if fl.pl = true ∨ fl.sp = true then 1 else 0) else 0
def digI (b u : Nat) : List UInt8 := dgs b (if b = 16 then 15 else 19) u []
def sharpI (b : Nat) (fl : Fl) (l : List UInt8) : List UInt8 := if fl.sh = true ∧ b = 16 then 48 :: 120 :: l else l
def signI (fl : Fl) (l : List UInt8) : List UInt8 := if fl.pl = true then 43 :: l else if fl.sp = true then 32 :: l else l
def intT (b : Nat) (fl : Fl) (u : Nat) : List UInt8 :=
  if fl.pp = true ∧ fl.prec = 0 ∧ u = 0 then rep fl.wid 32 else padT fl.wp fl.wid fl.mi (signI fl (sharpI b fl (zfill (precI fl) (digI b u))))
theorem precI_le (fl : Fl) : precI fl ≤ (fl.wid : Int) + (fl.prec : Int) := by
  unfold precI
  split
  · omega
  · split
    · split <;> omega
    · omega
theorem precI_0 (fl : Fl) (h1 : fl.pp = false) (h2 : fl.wp = false) : precI fl = 0 := by
  unfold precI
  rw [if_neg (by rw [h1]; decide), if_neg (by rw [h2]; rintro ⟨_, h⟩; cases h)]
theorem digI_len (b u : Nat) : 1 ≤ (digI b u).length ∧ (digI b u).length ≤ 20 := by
  by_cases h : b = 16
  · subst h
    have := dgs_len 16 15 u []
    simp only [List.length_nil] at this
    show 1 ≤ (dgs 16 15 u []).length ∧ (dgs 16 15 u []).length ≤ 20
    omega
  · have := dgs_len b 19 u []
    simp only [List.length_nil] at this
    unfold digI
    rw [if_neg h]
    omega
theorem and15 (u : Nat) (h : u < 18446744073709551616) : bits BinOp.and IntKind.u64 (u : Int) 15 = ((u % 16 : Nat) : Int) := by
  have e1 : (BitVec.ofInt 64 (u : Int)).toNat = u := by rw [BitVec.toNat_ofInt]; omega
  have e2 : (BitVec.ofInt 64 (15 : Int)).toNat = 15 := by decide
  have e3 : u &&& 15 = u % 16 := Nat.and_two_pow_sub_one_eq_mod u 4
  show IntKind.u64.wrap ((BitVec.ofInt 64 (u : Int) &&& BitVec.ofInt 64 (15 : Int)).toNat : Int) = _
  rw [BitVec.toNat_and, e1, e2, e3, IntKind.wrap_u64]
  omega
theorem hx_val (d : Nat) (h : d < 16) : (hx d).toNat = if d < 10 then 48 + d else 87 + d := by
  unfold hx
  rw [UInt8.toNat_ofNat']
  split <;> omega
theorem idx_0 (W : World) : (Instr.index 9 (.string ⟨#[48, 49, 50, 51, 52, 53, 54, 55, 56, 57, 97, 98, 99, 100, 101, 102, 120]⟩) (.int .u64 0)).run Tryd.prog W = .ok (.int .u8 48) W := by kernel_rfl
theorem idx_1 (W : World) : (Instr.index 9 (.string ⟨#[48, 49, 50, 51, 52, 53, 54, 55, 56, 57, 97, 98, 99, 100, 101, 102, 120]⟩) (.int .u64 1)).run Tryd.prog W = .ok (.int .u8 49) W := by kernel_rfl
theorem idx_2 (W : World) : (Instr.index 9 (.string ⟨#[48, 49, 50, 51, 52, 53, 54, 55, 56, 57, 97, 98, 99, 100, 101, 102, 120]⟩) (.int .u64 2)).run Tryd.prog W = .ok (.int .u8 50) W := by kernel_rfl
theorem idx_3 (W : World) : (Instr.index 9 (.string ⟨#[48, 49, 50, 51, 52, 53, 54, 55, 56, 57, 97, 98, 99, 100, 101, 102, 120]⟩) (.int .u64 3)).run Tryd.prog W = .ok (.int .u8 51) W := by kernel_rfl
theorem idx_4 (W : World) : (Instr.index 9 (.string ⟨#[48, 49, 50, 51, 52, 53, 54, 55, 56, 57, 97, 98, 99, 100, 101, 102, 120]⟩) (.int .u64 4)).run Tryd.prog W = .ok (.int .u8 52) W := by kernel_rfl
theorem idx_5 (W : World) : (Instr.index 9 (.string ⟨#[48, 49, 50, 51, 52, 53, 54, 55, 56, 57, 97, 98, 99, 100, 101, 102, 120]⟩) (.int .u64 5)).run Tryd.prog W = .ok (.int .u8 53) W := by kernel_rfl
theorem idx_6 (W : World) : (Instr.index 9 (.string ⟨#[48, 49, 50, 51, 52, 53, 54, 55, 56, 57, 97, 98, 99, 100, 101, 102, 120]⟩) (.int .u64 6)).run Tryd.prog W = .ok (.int .u8 54) W := by kernel_rfl
theorem idx_7 (W : World) : (Instr.index 9 (.string ⟨#[48, 49, 50, 51, 52, 53, 54, 55, 56, 57, 97, 98, 99, 100, 101, 102, 120]⟩) (.int .u64 7)).run Tryd.prog W = .ok (.int .u8 55) W := by kernel_rfl
theorem idx_8 (W : World) : (Instr.index 9 (.string ⟨#[48, 49, 50, 51, 52, 53, 54, 55, 56, 57, 97, 98, 99, 100, 101, 102, 120]⟩) (.int .u64 8)).run Tryd.prog W = .ok (.int .u8 56) W := by kernel_rfl
theorem idx_9 (W : World) : (Instr.index 9 (.string ⟨#[48, 49, 50, 51, 52, 53, 54, 55, 56, 57, 97, 98, 99, 100, 101, 102, 120]⟩) (.int .u64 9)).run Tryd.prog W = .ok (.int .u8 57) W := by kernel_rfl
theorem idx_10 (W : World) : (Instr.index 9 (.string ⟨#[48, 49, 50, 51, 52, 53, 54, 55, 56, 57, 97, 98, 99, 100, 101, 102, 120]⟩) (.int .u64 10)).run Tryd.prog W = .ok (.int .u8 97) W := by kernel_rfl
theorem idx_11 (W : World) : (Instr.index 9 (.string ⟨#[48, 49, 50, 51, 52, 53, 54, 55, 56, 57, 97, 98, 99, 100, 101, 102, 120]⟩) (.int .u64 11)).run Tryd.prog W = .ok (.int .u8 98) W := by kernel_rfl
theorem idx_12 (W : World) : (Instr.index 9 (.string ⟨#[48, 49, 50, 51, 52, 53, 54, 55, 56, 57, 97, 98, 99, 100, 101, 102, 120]⟩) (.int .u64 12)).run Tryd.prog W = .ok (.int .u8 99) W := by kernel_rfl
theorem idx_13 (W : World) : (Instr.index 9 (.string ⟨#[48, 49, 50, 51, 52, 53, 54, 55, 56, 57, 97, 98, 99, 100, 101, 102, 120]⟩) (.int .u64 13)).run Tryd.prog W = .ok (.int .u8 100) W := by kernel_rfl
theorem idx_14 (W : World) : (Instr.index 9 (.string ⟨#[48, 49, 50, 51, 52, 53, 54, 55, 56, 57, 97, 98, 99, 100, 101, 102, 120]⟩) (.int .u64 14)).run Tryd.prog W = .ok (.int .u8 101) W := by kernel_rfl
theorem idx_15 (W : World) : (Instr.index 9 (.string ⟨#[48, 49, 50, 51, 52, 53, 54, 55, 56, 57, 97, 98, 99, 100, 101, 102, 120]⟩) (.int .u64 15)).run Tryd.prog W = .ok (.int .u8 102) W := by kernel_rfl
theorem val10 (u : Nat) (h : u < 18446744073709551616) : IntKind.u64.wrap (IntKind.u64.wrap (48 + (u : Int)) - (u : Int) / 10 * 10) % 256 = ((hx (u % 10)).toNat : Int) := by
  rw [hx_val (u % 10) (by omega), if_pos (by omega), IntKind.wrap_u64, IntKind.wrap_u64]
  omega
theorem idx_hx (d : Nat) (h : d < 16) (W : World) : (Instr.index 9 (.string ⟨#[48, 49, 50, 51, 52, 53, 54, 55, 56, 57, 97, 98, 99, 100, 101, 102, 120]⟩) (.int .u64 (d : Int))).run Tryd.prog W = .ok (.int .u8 ((hx d).toNat : Int)) W := by
  have hh : d = 0 ∨ d = 1 ∨ d = 2 ∨ d = 3 ∨ d = 4 ∨ d = 5 ∨ d = 6 ∨ d = 7 ∨ d = 8 ∨ d = 9 ∨ d = 10 ∨ d = 11 ∨ d = 12 ∨ d = 13 ∨ d = 14 ∨ d = 15 := by omega
  rcases hh with rfl | rfl | rfl | rfl | rfl | rfl | rfl | rfl | rfl | rfl | rfl | rfl | rfl | rfl | rfl | rfl
  · exact (idx_0 W).trans rfl
  · exact (idx_1 W).trans rfl
  · exact (idx_2 W).trans rfl
  · exact (idx_3 W).trans rfl
  · exact (idx_4 W).trans rfl
  · exact (idx_5 W).trans rfl
  · exact (idx_6 W).trans rfl
  · exact (idx_7 W).trans rfl
  · exact (idx_8 W).trans rfl
  · exact (idx_9 W).trans rfl
  · exact (idx_10 W).trans rfl
  · exact (idx_11 W).trans rfl
  · exact (idx_12 W).trans rfl
  · exact (idx_13 W).trans rfl
  · exact (idx_14 W).trans rfl
  · exact (idx_15 W).trans rfl
theorem get_hx (d : Nat) (h : d < 16) : (⟨#[48, 49, 50, 51, 52, 53, 54, 55, 56, 57, 97, 98, 99, 100, 101, 102, 120]⟩ : ByteArray).get! d = hx d := by
  have hh : d = 0 ∨ d = 1 ∨ d = 2 ∨ d = 3 ∨ d = 4 ∨ d = 5 ∨ d = 6 ∨ d = 7 ∨ d = 8 ∨ d = 9 ∨ d = 10 ∨ d = 11 ∨ d = 12 ∨ d = 13 ∨ d = 14 ∨ d = 15 := by omega
  clear h
  rcases hh with rfl | rfl | rfl | rfl | rfl | rfl | rfl | rfl | rfl | rfl | rfl | rfl | rfl | rfl | rfl | rfl
  all_goals rfl
theorem Fl.back (fl : Fl) : { { fl with ze := false } with ze := fl.ze } = fl := by cases fl; rfl
theorem rep_ascii (k : Nat) (c : UInt8) (hc : c.toNat < 128) : ∀ x ∈ rep k c, x.toNat < 128 := by
  intro x hx
  unfold rep at hx
  rw [List.mem_replicate] at hx
  rw [hx.2]
  exact hc
theorem body_ascii (b u : Nat) (p : Int) (fl : Fl) (hb : b = 10 ∨ b = 16) (hu : u < 18446744073709551616) : ∀ x ∈ signI fl (sharpI b fl (zfill p (digI b u))), x.toNat < 128 := by
  have h1 : ∀ x ∈ zfill p (digI b u), x.toNat < 128 := by
    intro x hx
    unfold zfill at hx
    rw [List.mem_append] at hx
    rcases hx with hx | hx
    · exact rep_ascii _ 48 (by decide) x hx
    · unfold digI at hx
      refine dgs_ascii b (by omega) (by omega) _ u [] ?_ (fun c h => by cases h) x hx
      rcases hb with rfl | rfl
      · exact Nat.lt_trans hu (by decide)
      · exact Nat.lt_of_lt_of_le hu (by decide)
  have h2 : ∀ x ∈ sharpI b fl (zfill p (digI b u)), x.toNat < 128 := by
    intro x hx
    unfold sharpI at hx
    split at hx
    · simp only [List.mem_cons] at hx
      rcases hx with rfl | rfl | hx
      · decide
      · decide
      · exact h1 x hx
    · exact h1 x hx
  intro x hx
  unfold signI at hx
  split at hx
  · simp only [List.mem_cons] at hx
    rcases hx with rfl | hx
    · decide
    · exact h2 x hx
  · split at hx
    · simp only [List.mem_cons] at hx
      rcases hx with rfl | hx
      · decide
      · exact h2 x hx
    · exact h2 x hx
end Go.Proofs.YtohcajfgmgpoeaaDoor
