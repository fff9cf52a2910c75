/-
  A new printer with its flags set, and its text. Conditions: MaxStringLen reads as laid.
-/
import Derived.Test.YtohcajfgmgpoeaaDoorFmM
import Derived.Test.YtohcajfgmgpoeaaDoorPPNewA
import Derived.Test.YtohcajfgmgpoeaaDoorSl
namespace Go.Proofs.YtohcajfgmgpoeaaDoor
open Go.RowKit
set_option maxRecDepth 100000
set_option linter.unusedVariables false

def fl0 : Fl := ⟨false, false, false, false, false, false, false, 0, 0⟩
theorem pp_ib (p : Value) (i : Nat) (h : i < 68) : (ppCells p)[17 + i]? = some (.int .u8 0) := by
  unfold ppCells
  rw [Array.getElem?_append_left (by simp; omega), Array.getElem?_append_right (by simp)]
  simp [h]
theorem fmtS_new (g : Nat) : FmtS (ppCells (.pointer (some ⟨g, 0, none⟩))) g fl0 :=
  ⟨by rw [pp_size]; exact Nat.le_refl _, by kernel_rfl, by kernel_rfl, by kernel_rfl, by kernel_rfl, by kernel_rfl, by kernel_rfl, by kernel_rfl, by kernel_rfl, by kernel_rfl, by kernel_rfl, by kernel_rfl, by kernel_rfl, fun i hi => ⟨0, pp_ib _ i hi⟩⟩
theorem PF.keep {B g : Nat} {fl : Fl} {v : Value} {buf : List UInt8} {w w' : World} (h : PF B g fl v buf w) (hb : Below w.heap.size w w') : PF B g fl v buf w' := by
  obtain ⟨cs, h1, h2⟩ := h
  have hl := h1.blk.lt
  have hB := h1.base
  refine ⟨cs, ⟨h1.blk.same (hb.block _ hl), h1.c0, own_keep0 h1.own (fun k hk => hb.block k (own_lt8 h1.own k hk.symm).2), h1.base, ?_, h1.gmax⟩, h2⟩
  exact (hb.cell (p := ⟨0, 0, none⟩) (by have := h1.gmax; show 0 < _; omega)).trans h1.max
def NewF (fl : Fl) (w : World) (e : Ending) (w' : World) : Prop :=
  e = .returned (.pointer (some ⟨w.heap.size, 0, none⟩)) ∧ PF w.heap.size w.heap.size fl (.slice none 0 0) [] w' ∧ Below w.heap.size w w'
set_option maxHeartbeats 4000000 in
theorem newF_any (wid prec : Nat) (wp pp mi pl ze : Bool) (w : World) (hm : MaxS w) (hg : 0 < w.heap.size) :
    Calls Tryd.prog 6 #[.int .i64 (wid : Int), .bool wp, .int .i64 (prec : Int), .bool pp, .bool mi, .bool pl, .bool false, .bool false, .bool ze, .bool false] w (NewF ⟨wp, pp, mi, pl, false, false, ze, wid, prec⟩ w) := by
  have hal := zero_pp
  have HB := Lib.hid (Blk.new w 42 ppZero)
  have B1 := Lib.hid ((Below.refl w.heap.size w).alloc (Nat.le_refl _) (.cells ppZero 42))
  have HM := Lib.hid hm
  clear hm
  go_enter Tryd.func6, Tryd.ntmps6
  go_wp2_with fail
  clear hal
  go_still_tail 6, (by kernel_rfl)
  have hb2 : Blk (w.alloc (.cells ppZero 42)).drew w.heap.size 42 ppZero := HB.out
  have bb2 : Below w.heap.size w (w.alloc (.cells ppZero 42)).drew := B1.out.drew
  change wpList _ _ _ _ _ (w.alloc (.cells ppZero 42)).drew
  generalize (w.alloc (.cells ppZero 42)).drew = w2 at hb2 bb2 ⊢
  have H2 := Lib.hid hb2
  have B2 := Lib.hid bb2
  clear hb2 bb2 HB B1
  go_wp2_with fail
  refine (init_any w.heap.size ppZero _ ⟨_, rfl⟩ _ H2.out (by rw [ppZero, pp_size]; exact Nat.le_refl _)).mono ?_
  rintro e w3 ⟨rfl, hb3, hl3⟩
  rw [flags_pp] at hb3
  have bl3 := B2.out.trans hl3
  have h0 : PF w.heap.size w.heap.size fl0 (.slice none 0 0) [] w3 := ⟨_, ⟨hb3, pp_c0 _, World.ownsRow_nil _ _ _ _, Nat.le_refl _, HM.out.keep hg bl3, hg⟩, fmtS_new _⟩
  have H9 := Lib.hid ((((((((((h0.flag (.wid _ wid)).flag (.wp _ wp)).flag (.prec _ prec)).flag (.pp _ pp)).flag (.mi _ mi)).flag (.pl _ pl)).flag (.sh _ false)).flag (.sp _ false)).flag (.ze _ ze)).flag (.sv _))
  have B9 := Lib.hid (bl3.trans (((((((((((Below.refl w.heap.size w3).setCell (p := ⟨w.heap.size, 15, none⟩) (Nat.le_refl _) (.int .i64 (wid : Int))).setCell (p := ⟨w.heap.size, 3, none⟩) (Nat.le_refl _) (.bool wp)).setCell (p := ⟨w.heap.size, 16, none⟩) (Nat.le_refl _) (.int .i64 (prec : Int))).setCell (p := ⟨w.heap.size, 4, none⟩) (Nat.le_refl _) (.bool pp)).setCell (p := ⟨w.heap.size, 5, none⟩) (Nat.le_refl _) (.bool mi)).setCell (p := ⟨w.heap.size, 6, none⟩) (Nat.le_refl _) (.bool pl)).setCell (p := ⟨w.heap.size, 7, none⟩) (Nat.le_refl _) (.bool false)).setCell (p := ⟨w.heap.size, 8, none⟩) (Nat.le_refl _) (.bool false)).setCell (p := ⟨w.heap.size, 9, none⟩) (Nat.le_refl _) (.bool ze)).setCell (p := ⟨w.heap.size, 11, none⟩) (Nat.le_refl _) (.bool false)))
  obtain ⟨_, d2, d3, d4, d5, d6, d7, d8, d9, d15, d16, d11⟩ := h0.cells
  have hfr := fun i => h0.free i
  have f3 := hfr 3
  have f4 := hfr 4
  have f5 := hfr 5
  have f6 := hfr 6
  have f7 := hfr 7
  have f8 := hfr 8
  have f9 := hfr 9
  have f11 := hfr 11
  have f15 := hfr 15
  have f16 := hfr 16
  clear hb3 hl3 bl3 h0 H2 B2 hfr
  go_wp2_with fail
  go_ret
  exact ⟨rfl, H9.out, B9.out⟩
theorem run_txtF {W : World} {B : Nat} {oA : Option Addr} {l : List UInt8} (cap : Nat) (h : SrcAt W B oA l) : (convert 32 9 (.slice oA l.length cap)).run Tryd.prog W = .ok (.string ⟨l.toArray⟩) W := by
  rcases h with rfl | ⟨b, o, rfl, _, hc⟩
  · rcases oA with _ | p
    · kernel_rfl
    · refine run_convert_bytes_back W _ _ 5 p _ [] Tryd.underlying32 Tryd.underlying5 Tryd.underlying9 (fun i hi => ?_)
      cases hi
  · refine run_convert_bytes_back W _ _ 5 ⟨b, o, none⟩ _ l Tryd.underlying32 Tryd.underlying5 Tryd.underlying9 (fun i hi => ?_)
    have ea : (⟨b, o, none⟩ : Addr).add i = ⟨b, o + i, none⟩ := by unfold Addr.add; split <;> simp_all
    rw [ea, hc i hi]
set_option maxHeartbeats 400000 in
theorem zzout_any (B g : Nat) (fl : Fl) (v : Value) (buf : List UInt8) (w : World) (h : PF B g fl v buf w) :
    Calls Tryd.prog 8 #[.pointer (some ⟨g, 0, none⟩)] w fun e w' => e = .returned (.string ⟨buf.toArray⟩) ∧ w = w' := by
  obtain ⟨d0, _⟩ := h.cells
  obtain ⟨cs, h1, h2⟩ := h
  obtain ⟨ao, cp, rfl, _, _⟩ := own_val h1.own
  have hcv := run_txtF cp (own_srcAt h1.own)
  clear h1 h2
  go_enter Tryd.func8, Tryd.ntmps8
  go_wp2_with fail
  go_ret
  exact ⟨rfl, rfl⟩
end Go.Proofs.YtohcajfgmgpoeaaDoor
