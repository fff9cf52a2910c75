/-
  The law's own helpers around the printer, and fmt0x64. Conditions: as stated.
-/
import Derived.Test.YtfiinkdobcoihaaDoorFmIM
import Derived.Test.YtfiinkdobcoihaaDoorPPNew91
import Derived.Test.YtfiinkdobcoihaaDoorFmI16
namespace Go.Proofs.YtfiinkdobcoihaaDoor
open Go.RowKit
set_option maxRecDepth 100000
set_option linter.unusedVariables false

def fl0 : Fl := ⟨false, false, false, false, false, false, false, 0, 0⟩
theorem pp_ib (p : Value) (i : Nat) (h : i < 68) : (ppCells p)[17 + i]? = some (.int .u8 0) := by
  unfold ppCells
  rw [Array.getElem?_append_left (by simp; omega), Array.getElem?_append_right (by simp)]
  simp [h]
theorem fmtS_new (g : Nat) : FmtS (ppCells (.pointer (some ⟨g, 0, none⟩))) g fl0 :=
  ⟨by rw [pp_size]; exact Nat.le_refl _, by kernel_rfl, by kernel_rfl, by kernel_rfl, by kernel_rfl, by kernel_rfl, by kernel_rfl, by kernel_rfl, by kernel_rfl, by kernel_rfl, by kernel_rfl, by kernel_rfl, by kernel_rfl, fun i hi => ⟨0, pp_ib _ i hi⟩⟩
def NewF (w : World) (e : Ending) (w' : World) : Prop :=
  e = .returned (.pointer (some ⟨w.heap.size, 0, none⟩)) ∧ PF w.heap.size w.heap.size fl0 (.slice none 0 0) [] w' ∧ Below w.heap.size w w'
theorem newF_any (w : World) (hm : MaxS w) (hg : 0 < w.heap.size) : Calls Tryd.prog 5 #[] w (NewF w) :=
  (newPrinter_any w hm hg).mono fun _ _ ⟨h1, h2, h3⟩ => ⟨h1, ⟨_, h2, fmtS_new _⟩, h3⟩
theorem PF.keep {B g : Nat} {fl : Fl} {v : Value} {buf : List UInt8} {w w' : World} (h : PF B g fl v buf w) (hb : Below w.heap.size w w') : PF B g fl v buf w' := by
  obtain ⟨cs, h1, h2⟩ := h
  have hl := h1.blk.lt
  have hB := h1.base
  refine ⟨cs, ⟨h1.blk.same (hb.block _ hl), h1.c0, own_keep0 h1.own (fun k hk => hb.block k (own_lt8 h1.own k hk.symm).2), h1.base, ?_, h1.gmax⟩, h2⟩
  exact (hb.cell (p := ⟨0, 0, none⟩) (by have := h1.gmax; show 0 < _; omega)).trans h1.max
set_option maxHeartbeats 400000 in
theorem setMinus_any (B g : Nat) (fl : Fl) (v : Value) (buf : List UInt8) (b : Bool) (w : World) (h : PF B g fl v buf w) :
    Calls Tryd.prog 12 #[.pointer (some ⟨g, 0, none⟩), (.bool b)] w fun e w' => e = .returned (.tuple #[]) ∧ PF B g { fl with mi := b } v buf w' ∧ Below B w w' := by
  obtain ⟨_, d2, d3, d4, d5, d6, d7, d8, d9, d15, d16, _⟩ := h.cells
  have f1 := h.free 5
  have HP := Lib.hid (h.flag (.mi fl b))
  have HB := Lib.hid (h.put_below 5 (.bool b))
  clear h
  go_enter Tryd.func12, Tryd.ntmps12
  go_wp2_with fail
  go_end0
  exact ⟨rfl, HP.out, HB.out⟩
set_option maxHeartbeats 400000 in
theorem setZero_any (B g : Nat) (fl : Fl) (v : Value) (buf : List UInt8) (b : Bool) (w : World) (h : PF B g fl v buf w) :
    Calls Tryd.prog 13 #[.pointer (some ⟨g, 0, none⟩), (.bool b)] w fun e w' => e = .returned (.tuple #[]) ∧ PF B g { fl with ze := b } v buf w' ∧ Below B w w' := by
  obtain ⟨_, d2, d3, d4, d5, d6, d7, d8, d9, d15, d16, _⟩ := h.cells
  have f1 := h.free 9
  have HP := Lib.hid (h.flag (.ze fl b))
  have HB := Lib.hid (h.put_below 9 (.bool b))
  clear h
  go_enter Tryd.func13, Tryd.ntmps13
  go_wp2_with fail
  go_end0
  exact ⟨rfl, HP.out, HB.out⟩
set_option maxHeartbeats 400000 in
theorem setSharp_any (B g : Nat) (fl : Fl) (v : Value) (buf : List UInt8) (b : Bool) (w : World) (h : PF B g fl v buf w) :
    Calls Tryd.prog 6 #[.pointer (some ⟨g, 0, none⟩), (.bool b)] w fun e w' => e = .returned (.tuple #[]) ∧ PF B g { fl with sh := b } v buf w' ∧ Below B w w' := by
  obtain ⟨_, d2, d3, d4, d5, d6, d7, d8, d9, d15, d16, _⟩ := h.cells
  have f1 := h.free 7
  have HP := Lib.hid (h.flag (.sh fl b))
  have HB := Lib.hid (h.put_below 7 (.bool b))
  clear h
  go_enter Tryd.func6, Tryd.ntmps6
  go_wp2_with fail
  go_end0
  exact ⟨rfl, HP.out, HB.out⟩
set_option maxHeartbeats 400000 in
theorem setWidth_any (B g : Nat) (fl : Fl) (v : Value) (buf : List UInt8) (b : Bool) (n : Nat) (w : World) (h : PF B g fl v buf w) :
    Calls Tryd.prog 11 #[.pointer (some ⟨g, 0, none⟩), (.bool b), (.int .i64 (n : Int))] w fun e w' => e = .returned (.tuple #[]) ∧ PF B g { fl with wp := b, wid := n } v buf w' ∧ Below B w w' := by
  obtain ⟨_, d2, d3, d4, d5, d6, d7, d8, d9, d15, d16, _⟩ := h.cells
  have f1 := h.free 3
  have f2 := h.free 15
  have hp := (h.flag (.wp fl b)).flag (.wid _ n)
  have hbl := (h.put_below 3 (.bool b)).trans ((h.flag (.wp fl b)).put_below 15 (.int .i64 (n : Int)))
  have HP := Lib.hid hp
  have HB := Lib.hid hbl
  clear h hp hbl
  go_enter Tryd.func11, Tryd.ntmps11
  go_wp2_with fail
  go_end0
  exact ⟨rfl, HP.out, HB.out⟩
theorem run_txtF {W : World} {B : Nat} {oA : Option Addr} {l : List UInt8} (cap : Nat) (h : SrcAt W B oA l) : (convert 37 9 (.slice oA l.length cap)).run Tryd.prog W = .ok (.string ⟨l.toArray⟩) W := by
  rcases h with rfl | ⟨b, o, rfl, _, hc⟩
  · rcases oA with _ | p
    · kernel_rfl
    · refine run_convert_bytes_back W _ _ 5 p _ [] Tryd.underlying37 Tryd.underlying5 Tryd.underlying9 (fun i hi => ?_)
      cases hi
  · refine run_convert_bytes_back W _ _ 5 ⟨b, o, none⟩ _ l Tryd.underlying37 Tryd.underlying5 Tryd.underlying9 (fun i hi => ?_)
    have ea : (⟨b, o, none⟩ : Addr).add i = ⟨b, o + i, none⟩ := by unfold Addr.add; split <;> simp_all
    rw [ea, hc i hi]
set_option maxHeartbeats 400000 in
theorem zzbuf_any (B g : Nat) (fl : Fl) (v : Value) (buf : List UInt8) (w : World) (h : PF B g fl v buf w) :
    Calls Tryd.prog 8 #[.pointer (some ⟨g, 0, none⟩)] w fun e w' => e = .returned (.string ⟨buf.toArray⟩) ∧ w = w' := by
  obtain ⟨d0, _⟩ := h.cells
  obtain ⟨cs, h1, h2⟩ := h
  obtain ⟨ao, cp, rfl, _, _⟩ := own_val h1.own
  have hcv := run_txtF cp (own_srcAt h1.own)
  clear h1 h2
  go_enter Tryd.func8, Tryd.ntmps8
  go_wp2_with fail
  go_ret
  exact ⟨rfl, rfl⟩
set_option maxHeartbeats 400000 in
theorem zzsharp_any (B g : Nat) (fl : Fl) (v : Value) (buf : List UInt8) (w : World) (h : PF B g fl v buf w) :
    Calls Tryd.prog 10 #[.pointer (some ⟨g, 0, none⟩)] w fun e w' => e = .returned (.bool fl.sh) ∧ w = w' := by
  obtain ⟨_, d2, d3, d4, d5, d6, d7, d8, d9, d15, d16, _⟩ := h.cells
  clear h
  go_enter Tryd.func10, Tryd.ntmps10
  go_wp2_with fail
  go_ret
  exact ⟨rfl, rfl⟩
theorem Fl.backs (fl : Fl) (b : Bool) : { { fl with sh := b } with sh := fl.sh } = fl := by cases fl; rfl
set_option maxHeartbeats 1000000 in
theorem fmt0x64_any (B g : Nat) (fl : Fl) (v : Value) (buf : List UInt8) (u : Nat) (lead : Bool) (w : World) (h : PF B g fl v buf w) (hw : fl.wid ≤ 65536) (hp : fl.prec ≤ 65536) (hu : u < 18446744073709551616) (hl : buf.length + 4000000 ≤ 2147483647) (hpp : fl.pp = false) (hpl : fl.pl = false) (hsp : fl.sp = false) :
    Calls Tryd.prog 17 #[.pointer (some ⟨g, 0, none⟩), .int .u64 (u : Int), .bool lead] w (PadPost B g fl (buf ++ intT 16 { fl with sh := lead } u) w) := by
  obtain ⟨_, d2, d3, d4, d5, d6, d7, d8, d9, d15, d16, _⟩ := h.cells
  have f7 := h.free 7
  have hfl := h.flag (.sh fl lead)
  have HC := Lib.hid (fmtI_any B g { fl with sh := lead } v buf u 118 _ hfl hw hp hu (by decide) hl hpp hpl hsp)
  have HB := Lib.hid (h.put_below 7 (.bool lead))
  clear h hfl d2 d3 d4 d5 d6 d8 d9 d15 d16
  go_enter Tryd.func17, Tryd.ntmps17
  go_wp2_with fail
  refine HC.out.mono ?_
  rintro e w2 ⟨v', rfl, h2, h3⟩
  obtain ⟨_, _, _, _, _, _, e7, _, _, _, _, _⟩ := h2.cells
  have e7' : w2.cell? ⟨g, 7, none⟩ = some (.bool lead) := e7
  have g7 := h2.free 7
  have h4 := h2.flag (.sh _ fl.sh)
  rw [Fl.backs] at h4
  have H4 := Lib.hid h4
  have B4 := Lib.hid ((HB.out.trans h3).trans (h2.put_below 7 (.bool fl.sh)))
  clear h2 h3 h4 e7 HC HB
  go_wp2_with fail
  go_end0
  exact ⟨v', rfl, H4.out, B4.out⟩
set_option maxHeartbeats 1000000 in
theorem zz0x64_any (B g : Nat) (fl : Fl) (v : Value) (buf : List UInt8) (u : Nat) (lead : Bool) (w : World) (h : PF B g fl v buf w) (hw : fl.wid ≤ 65536) (hp : fl.prec ≤ 65536) (hu : u < 18446744073709551616) (hl : buf.length + 4000000 ≤ 2147483647) (hpp : fl.pp = false) (hpl : fl.pl = false) (hsp : fl.sp = false) :
    Calls Tryd.prog 7 #[.pointer (some ⟨g, 0, none⟩), .int .u64 (u : Int), .bool lead] w (PadPost B g fl (buf ++ intT 16 { fl with sh := lead } u) w) := by
  have HC := Lib.hid (fmt0x64_any B g fl v buf u lead w h hw hp hu hl hpp hpl hsp)
  clear h
  go_enter Tryd.func7, Tryd.ntmps7
  go_wp2_with fail
  refine HC.out.mono ?_
  rintro e w2 ⟨v', rfl, h2, h3⟩
  have H := Lib.hid (And.intro h2 h3)
  clear h2 h3
  go_wp2_with fail
  go_end0
  exact ⟨v', rfl, H.out.1, H.out.2⟩
end Go.Proofs.YtfiinkdobcoihaaDoor
