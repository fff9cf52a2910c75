/-
  A new printer. No conditions but that MaxStringLen reads as laid.
-/
import Derived.Test.YtohcajfgmgpoeaaDoorPP
namespace Go.Proofs.YtohcajfgmgpoeaaDoor
open Go.RowKit
set_option maxRecDepth 100000
set_option linter.unusedVariables false

def ppCells (p : Value) : Array Value := #[.slice none 0 0, .nilIface, p] ++ Array.replicate 12 (.bool false) ++ #[.int .i64 0, .int .i64 0] ++ Array.replicate 68 (.int .u8 0) ++ #[.bool false, .bool false, .bool false]
def ppZero : Array Value := ppCells (.pointer none)
theorem zero_pp (w : World) : (zeroValue 42).run Tryd.prog w = .ok (.agg ppZero) w := by kernel_rfl

def flagsOff (cs : Array Value) : Array Value := ((((((((((((cs.setIfInBounds 3 (.bool false)).setIfInBounds 4 (.bool false)).setIfInBounds 5 (.bool false)).setIfInBounds 6 (.bool false)).setIfInBounds 7 (.bool false)).setIfInBounds 8 (.bool false)).setIfInBounds 9 (.bool false)).setIfInBounds 10 (.bool false)).setIfInBounds 11 (.bool false)).setIfInBounds 12 (.bool false)).setIfInBounds 13 (.bool false)).setIfInBounds 14 (.bool false))

set_option maxHeartbeats 1000000 in
theorem clearFlags_any (g : Nat) (cs : Array Value) (w : World) (hb : Blk w g 42 cs) (hn : 88 ≤ cs.size) :
    Calls Tryd.prog 16 #[.pointer (some ⟨g, 2, none⟩)] w fun e w' => e = .returned (.tuple #[]) ∧ Blk w' g 42 (flagsOff cs) ∧ Below g w w' := by
  obtain ⟨u3, d3⟩ : ∃ u, cs[3]? = some u := ⟨cs[3]'(by omega), Array.getElem?_eq_getElem (by omega)⟩
  have c3 : w.cell? ⟨g, 3, none⟩ = some u3 := by rw [hb.cell, d3]
  have f3 := hb.free 3
  obtain ⟨u4, d4⟩ : ∃ u, cs[4]? = some u := ⟨cs[4]'(by omega), Array.getElem?_eq_getElem (by omega)⟩
  have c4 : w.cell? ⟨g, 4, none⟩ = some u4 := by rw [hb.cell, d4]
  have f4 := hb.free 4
  obtain ⟨u5, d5⟩ : ∃ u, cs[5]? = some u := ⟨cs[5]'(by omega), Array.getElem?_eq_getElem (by omega)⟩
  have c5 : w.cell? ⟨g, 5, none⟩ = some u5 := by rw [hb.cell, d5]
  have f5 := hb.free 5
  obtain ⟨u6, d6⟩ : ∃ u, cs[6]? = some u := ⟨cs[6]'(by omega), Array.getElem?_eq_getElem (by omega)⟩
  have c6 : w.cell? ⟨g, 6, none⟩ = some u6 := by rw [hb.cell, d6]
  have f6 := hb.free 6
  obtain ⟨u7, d7⟩ : ∃ u, cs[7]? = some u := ⟨cs[7]'(by omega), Array.getElem?_eq_getElem (by omega)⟩
  have c7 : w.cell? ⟨g, 7, none⟩ = some u7 := by rw [hb.cell, d7]
  have f7 := hb.free 7
  obtain ⟨u8, d8⟩ : ∃ u, cs[8]? = some u := ⟨cs[8]'(by omega), Array.getElem?_eq_getElem (by omega)⟩
  have c8 : w.cell? ⟨g, 8, none⟩ = some u8 := by rw [hb.cell, d8]
  have f8 := hb.free 8
  obtain ⟨u9, d9⟩ : ∃ u, cs[9]? = some u := ⟨cs[9]'(by omega), Array.getElem?_eq_getElem (by omega)⟩
  have c9 : w.cell? ⟨g, 9, none⟩ = some u9 := by rw [hb.cell, d9]
  have f9 := hb.free 9
  obtain ⟨u10, d10⟩ : ∃ u, cs[10]? = some u := ⟨cs[10]'(by omega), Array.getElem?_eq_getElem (by omega)⟩
  have c10 : w.cell? ⟨g, 10, none⟩ = some u10 := by rw [hb.cell, d10]
  have f10 := hb.free 10
  obtain ⟨u11, d11⟩ : ∃ u, cs[11]? = some u := ⟨cs[11]'(by omega), Array.getElem?_eq_getElem (by omega)⟩
  have c11 : w.cell? ⟨g, 11, none⟩ = some u11 := by rw [hb.cell, d11]
  have f11 := hb.free 11
  obtain ⟨u12, d12⟩ : ∃ u, cs[12]? = some u := ⟨cs[12]'(by omega), Array.getElem?_eq_getElem (by omega)⟩
  have c12 : w.cell? ⟨g, 12, none⟩ = some u12 := by rw [hb.cell, d12]
  have f12 := hb.free 12
  obtain ⟨u13, d13⟩ : ∃ u, cs[13]? = some u := ⟨cs[13]'(by omega), Array.getElem?_eq_getElem (by omega)⟩
  have c13 : w.cell? ⟨g, 13, none⟩ = some u13 := by rw [hb.cell, d13]
  have f13 := hb.free 13
  obtain ⟨u14, d14⟩ : ∃ u, cs[14]? = some u := ⟨cs[14]'(by omega), Array.getElem?_eq_getElem (by omega)⟩
  have c14 : w.cell? ⟨g, 14, none⟩ = some u14 := by rw [hb.cell, d14]
  have f14 := hb.free 14
  have H := Lib.hid hb
  clear hb d3 d4 d5 d6 d7 d8 d9 d10 d11 d12 d13 d14
  go_enter Tryd.func16, Tryd.ntmps16
  go_wp2_with fail
  go_end0
  exact ⟨rfl, ((((((((((((H.out.put 3 (.bool false)).put 4 (.bool false)).put 5 (.bool false)).put 6 (.bool false)).put 7 (.bool false)).put 8 (.bool false)).put 9 (.bool false)).put 10 (.bool false)).put 11 (.bool false)).put 12 (.bool false)).put 13 (.bool false)).put 14 (.bool false)), (((((((((((((Below.refl g w).setCell (p := ⟨g, 3, none⟩) (Nat.le_refl g) (.bool false)).setCell (p := ⟨g, 4, none⟩) (Nat.le_refl g) (.bool false)).setCell (p := ⟨g, 5, none⟩) (Nat.le_refl g) (.bool false)).setCell (p := ⟨g, 6, none⟩) (Nat.le_refl g) (.bool false)).setCell (p := ⟨g, 7, none⟩) (Nat.le_refl g) (.bool false)).setCell (p := ⟨g, 8, none⟩) (Nat.le_refl g) (.bool false)).setCell (p := ⟨g, 9, none⟩) (Nat.le_refl g) (.bool false)).setCell (p := ⟨g, 10, none⟩) (Nat.le_refl g) (.bool false)).setCell (p := ⟨g, 11, none⟩) (Nat.le_refl g) (.bool false)).setCell (p := ⟨g, 12, none⟩) (Nat.le_refl g) (.bool false)).setCell (p := ⟨g, 13, none⟩) (Nat.le_refl g) (.bool false)).setCell (p := ⟨g, 14, none⟩) (Nat.le_refl g) (.bool false))⟩

set_option maxHeartbeats 1000000 in
theorem init_any (g : Nat) (cs : Array Value) (q : Value) (hq : ∃ a, q = .pointer a) (w : World) (hb : Blk w g 42 cs) (hn : 88 ≤ cs.size) :
    Calls Tryd.prog 12 #[.pointer (some ⟨g, 2, none⟩), q] w fun e w' => e = .returned (.tuple #[]) ∧ Blk w' g 42 (flagsOff (cs.setIfInBounds 2 q)) ∧ Below g w w' := by
  obtain ⟨a, rfl⟩ := hq
  obtain ⟨u2, d2⟩ : ∃ u, cs[2]? = some u := ⟨cs[2]'(by omega), Array.getElem?_eq_getElem (by omega)⟩
  have c2 : w.cell? ⟨g, 2, none⟩ = some u2 := by rw [hb.cell, d2]
  have f2 := hb.free 2
  have H := Lib.hid (hb.put 2 (.pointer a))
  have hn2 : 88 ≤ (cs.setIfInBounds 2 (.pointer a)).size := by simp; omega
  clear hb d2
  go_enter Tryd.func12, Tryd.ntmps12
  go_wp2_with (go_at_call 16; refine (clearFlags_any g _ _ H.out hn2).mono ?_; rintro e w3 ⟨rfl, hb3, hl3⟩; have H3 := Lib.hid hb3; have L3 := Lib.hid hl3; clear hb3 hl3)
  go_end0
  exact ⟨rfl, H3.out, ((Below.refl g w).setCell (p := ⟨g, 2, none⟩) (Nat.le_refl g) _).trans L3.out⟩

theorem flags_pp (p : Value) : flagsOff (ppZero.setIfInBounds 2 p) = ppCells p := by kernel_rfl
theorem pp_c0 (p : Value) : (ppCells p)[0]? = some (.slice none 0 0) := by kernel_rfl
theorem pp_size (p : Value) : (ppCells p).size = 88 := by kernel_rfl

end Go.Proofs.YtohcajfgmgpoeaaDoor
