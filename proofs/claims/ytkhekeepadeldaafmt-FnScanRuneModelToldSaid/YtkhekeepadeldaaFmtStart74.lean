/-
  Where a scanner stands when it is made: behind a byte order mark, or at the start; the law's own word for it. Conditions: at most 2^20 bytes.
-/
import Derived.Test.YtkhekeepadeldaaFmtNxM
import Derived.Test.YtkhekeepadeldaaFmtAppG
namespace Go.Proofs.YtkhekeepadeldaaFmt
open Go.RowKit
set_option maxRecDepth 100000
set_option linter.unusedVariables false

def bom (src : List UInt8) : Prop := 3 ≤ src.length ∧ bt src 0 = 239 ∧ bt src 1 = 187 ∧ bt src 2 = 191
instance (src : List UInt8) : Decidable (bom src) := by unfold bom; exact inferInstance
def start0 (src : List UInt8) : Nat := if bom src then 3 else 0
theorem nx_st0 (src : List UInt8) (m : Int) (h : 0 < src.length) : (nx src (st0 m)).off = 0 ∧ (nx src (st0 m)).rd = (rn src 0).2 ∧ (nx src (st0 m)).ch = ((rn src 0).1 : Int) ∧ (nx src (st0 m)).ec ≤ 1 := by
  have hr : (st0 m).rd < src.length := h
  have e : nx src (st0 m) = { nl src.length (st0 m).rd (st0 m) with off := (st0 m).rd, rd := (st0 m).rd + (rn src (st0 m).rd).2, ch := ((rn src (st0 m).rd).1 : Int), ec := (st0 m).ec + (if badc src (st0 m).rd then 1 else 0) } := by
    unfold nx
    rw [if_pos hr]
  rw [e]
  refine ⟨rfl, ?_, rfl, ?_⟩
  · show 0 + (rn src 0).2 = _
    omega
  · show 0 + (if badc src 0 = true then 1 else 0) ≤ 1
    split <;> omega
theorem bom_rn (src : List UInt8) (h : 0 < src.length) : ((rn src 0).1 = 65279 ↔ bom src) ∧ (bom src → rn src 0 = (65279, 3)) := by
  have hf := decodeN_facts (src.length - 0) (bt src 0) (bt src 1) (bt src 2) (bt src 3) (by omega) (bt_lt _ _)
  have h2 : bom src → rn src 0 = (65279, 3) := by
    rintro ⟨k0, k1, k2, k3⟩
    unfold rn
    rw [k1, k2, k3]
    unfold Lib.decodeN
    rw [if_neg (by omega), if_neg (by omega), if_pos (by omega), if_pos (by omega)]
  refine ⟨⟨fun he => ?_, fun hb => by rw [h2 hb]⟩, h2⟩
  have := hf.2.2.2.2.2.2 he
  have b1 := bt_lt src 1
  have b2 := bt_lt src 2
  exact ⟨by omega, by omega, by omega, by omega⟩
theorem stNew_off (src : List UInt8) (m : Int) : (stNew src m).off = start0 src ∧ (stNew src m).ec ≤ 2 := by
  by_cases h : 0 < src.length
  · obtain ⟨a1, a2, a3, a4⟩ := nx_st0 src m h
    obtain ⟨b1, b2⟩ := bom_rn src h
    by_cases hb : bom src
    · have e : stNew src m = nx src (nx src (st0 m)) := by
        unfold stNew
        rw [if_pos (by rw [a3, b2 hb]; rfl)]
      rw [e]
      unfold start0
      rw [if_pos hb]
      have h3 : (nx src (st0 m)).rd = 3 := by rw [a2, b2 hb]
      clear e a2 a3
      generalize nx src (st0 m) = s1 at h3 a4 ⊢
      unfold nx
      split
      · refine ⟨h3, ?_⟩
        show s1.ec + (if badc src s1.rd = true then 1 else 0) ≤ 2
        split <;> omega
      · refine ⟨?_, by show s1.ec ≤ 2; omega⟩
        show src.length = 3
        have := hb.1
        omega
    · have e : stNew src m = nx src (st0 m) := by
        unfold stNew
        rw [if_neg (by rw [a3]; intro hh; exact hb (b1.1 (by omega)))]
      rw [e]
      unfold start0
      rw [if_neg hb]
      exact ⟨a1, by omega⟩
  · have hz : src.length = 0 := by omega
    have hr : ¬ (st0 m).rd < src.length := by rw [hz]; exact Nat.not_lt_zero _
    have e1 : nx src (st0 m) = { nl src.length src.length (st0 m) with off := src.length, ch := -1 } := by
      unfold nx
      rw [if_neg hr]
    have e : stNew src m = nx src (st0 m) := by
      unfold stNew
      rw [if_neg (by rw [e1]; show ¬ (-1 : Int) = 65279; decide)]
    rw [e, e1]
    unfold start0
    rw [if_neg (by intro hb; have := hb.1; omega)]
    exact ⟨hz, by show (0 : Nat) ≤ 2; omega⟩
set_option maxHeartbeats 1000000 in
theorem start_any (oA : Option Addr) (cap : Nat) (src : List UInt8) (w : World) (hsrc : SrcAt w w.heap.size oA src) (hn : src.length ≤ 1048576) :
    Calls Tryf.prog 9 #[.slice oA src.length cap] w fun e w' => e = .returned (.int .i64 (start0 src : Int)) ∧ w = w' := by
  by_cases h3 : src.length < 3
  · have t1 : decide ((src.length : Int) ≥ 3) = false := by simp; omega
    have e : start0 src = 0 := by unfold start0; rw [if_neg (by intro hb; have := hb.1; omega)]
    rw [e]
    clear hsrc e
    go_enter Tryf.func9, Tryf.ntmps9
    go_wp2_with fail
    go_ret
    exact ⟨rfl, rfl⟩
  have t1 : decide ((src.length : Int) ≥ 3) = true := by simp; omega
  obtain ⟨b, o, rfl, hbb, hcc⟩ := hsrc.at_ (by omega)
  have c0 : w.cell? ⟨b, o, none⟩ = some (.int .u8 (bt src 0 : Int)) := by
    have := hcc 0 (by omega)
    rw [Nat.add_zero] at this
    rw [this]
    simp [bt, List.getD, show 0 < src.length by omega]
  have c1 : w.cell? ⟨b, o + 1, none⟩ = some (.int .u8 (bt src 1 : Int)) := by
    rw [hcc 1 (by omega)]
    simp [bt, List.getD, show 1 < src.length by omega]
  have c2 : w.cell? ⟨b, o + 2, none⟩ = some (.int .u8 (bt src 2 : Int)) := by
    rw [hcc 2 (by omega)]
    simp [bt, List.getD, show 2 < src.length by omega]
  clear hcc hsrc
  by_cases k0 : bt src 0 = 239
  rotate_left
  · have t2 : ((bt src 0 : Int) == 239) = false := by simp; omega
    have e : start0 src = 0 := by unfold start0; rw [if_neg (by intro hb; exact k0 hb.2.1)]
    rw [e]
    clear e k0
    go_enter Tryf.func9, Tryf.ntmps9
    go_wp2_with fail
    go_ret
    exact ⟨rfl, rfl⟩
  by_cases k1 : bt src 1 = 187
  rotate_left
  · have t3 : ((bt src 1 : Int) == 187) = false := by simp; omega
    have e : start0 src = 0 := by unfold start0; rw [if_neg (by intro hb; exact k1 hb.2.2.1)]
    rw [e]
    rw [k0] at c0
    clear e k0 k1
    go_enter Tryf.func9, Tryf.ntmps9
    go_wp2_with fail
    go_ret
    exact ⟨rfl, rfl⟩
  by_cases k2 : bt src 2 = 191
  rotate_left
  · have t3 : ((bt src 2 : Int) == 191) = false := by simp; omega
    have e : start0 src = 0 := by unfold start0; rw [if_neg (by intro hb; exact k2 hb.2.2.2)]
    rw [e]
    rw [k0] at c0
    rw [k1] at c1
    clear e k0 k1 k2
    go_enter Tryf.func9, Tryf.ntmps9
    go_wp2_with fail
    go_ret
    exact ⟨rfl, rfl⟩
  have e : start0 src = 3 := by unfold start0; rw [if_pos ⟨by omega, k0, k1, k2⟩]
  rw [e]
  rw [k0] at c0
  rw [k1] at c1
  rw [k2] at c2
  clear e k0 k1 k2
  go_enter Tryf.func9, Tryf.ntmps9
  go_wp2_with fail
  go_ret
  exact ⟨rfl, rfl⟩
end Go.Proofs.YtkhekeepadeldaaFmt
