/-
  The scanner of the n002_96 laws, and a world that holds what lies below it. Conditions: at most 2^20 bytes.
-/
import Derived.Test.YtamfekpcoppbgaaFmtSnX
import Derived.Test.YtamfekpcoppbgaaFmtSnGZ
import Derived.Test.YtamfekpcoppbgaaFmtNewScan
import Derived.Test.YtamfekpcoppbgaaFmtClone96
namespace Go.Proofs.YtamfekpcoppbgaaFmt
open Go.RowKit
set_option maxRecDepth 100000
set_option linter.unusedVariables false

theorem push_below (w w1 : World) (X : Obj) (hb : Below w.heap.size w w1) (hs : w.heap.size + 1 ≤ w1.heap.size) (hX : w1.heap[w.heap.size]? = some X) :
    Below w.heap.size w { w with heap := w.heap.push X } ∧ Below (w.heap.size + 1) { w with heap := w.heap.push X } w1 := by
  refine ⟨⟨rfl, rfl, rfl, by simp, fun k hk => ?_⟩, ⟨hb.os, hb.tape, hb.output, by simpa using hs, fun k hk => ?_⟩⟩
  · show (w.heap.push X)[k]? = w.heap[k]?
    rw [Array.getElem?_push, if_neg (by omega)]
  · show w1.heap[k]? = (w.heap.push X)[k]?
    rw [Array.getElem?_push]
    by_cases h : k = w.heap.size
    · rw [if_pos h, h, hX]
    · rw [if_neg h]
      exact hb.block k (by omega)
def MkPostS (oA : Option Addr) (cap : Nat) (src : List UInt8) (w : World) (e : Ending) (w' : World) : Prop :=
  ∃ (F : Fix) (W0 : World), e = .returned (.tuple #[.pointer (some ⟨F.gS, 0, none⟩), .pointer (some ⟨F.gF, 0, none⟩)]) ∧ w.heap.size ≤ F.B ∧ F.oA = oA ∧ F.cap = cap ∧ F.fx.base = 1 ∧ Below w.heap.size w W0 ∧ F.B = W0.heap.size ∧ Below F.B W0 w' ∧ SC F src (stNew src 0) w' ∧ Below w.heap.size w w'

set_option maxHeartbeats 1000000 in
theorem mkS_any (oA : Option Addr) (cap : Nat) (src : List UInt8) (w : World) (hsrc : SrcAt w w.heap.size oA src) (htab : Lib.Utf8Tabs 4 5 w) (hg : 4 < w.heap.size ∧ 5 < w.heap.size) (hn : src.length ≤ 1048576) (hcap : src.length ≤ cap) :
    Calls Tryf.prog 10 #[.slice oA src.length cap] w (MkPostS oA cap src w) := by
  have hset := Blk.new w 78 #[.int .i64 1, .slice none 0 0, .pointer none]
  have HS := Lib.hid hset
  have HR := Lib.hid hsrc
  have HT := Lib.hid htab
  clear hset hsrc htab
  go_enter Tryf.func10, Tryf.ntmps10
  go_wp2_with (go_at_call 27; go_in)
  refine (addFile_any w.heap.size _ src.length _ HS.out hn).mono ?_
  rintro e w1 ⟨gF, lv, rfl, hgF, hf, hown, hos, htp, hout, hsz, hfr⟩
  have hsz0 : w.heap.size + 1 ≤ w1.heap.size := by simpa using hsz
  have hb1 : Below w.heap.size w w1 := ⟨hos, htp, hout, by omega, fun k hk => (hfr k (by simp; omega) (by omega)).trans (Below.heap_alloc _ _ _ hk)⟩
  have hgF0 : w.heap.size + 1 ≤ gF := by simpa using hgF
  have hown0 : w1.ownsRow (w.heap.size + 1) 3 1 lv 1 (lnCells [0]) := by
    have e : (w.alloc (.cells #[.int .i64 1, .slice none 0 0, .pointer none] 78)).heap.size = w.heap.size + 1 := by simp
    rw [e] at hown
    exact hown
  have hsrc1 : SrcAt w1 (w.heap.size + 1) oA src := (HR.out.keep hb1.block).more (by omega)
  have htab1 := tabs_keep HT.out hg.1 hg.2 hb1.block
  have HN := Lib.hid (newScanner_any (w.heap.size + 1) gF oA cap _ src lv 0 w1 (by omega) hf hown0 hsrc1 htab1 (by omega) hgF0 hn hcap)
  have B1 := Lib.hid hb1
  obtain ⟨X, hX⟩ : ∃ X, w1.heap[w.heap.size]? = some X := ⟨_, Array.getElem?_eq_getElem (by omega)⟩
  have HW := Lib.hid (push_below w w1 X hb1 (by omega) hX)
  clear hX
  clear hf hown hown0 hsrc1 htab1 hb1 hfr hos htp hout hgF hsz
  go_wp2_with fail
  refine HN.out.mono ?_
  rintro e w2 ⟨gS, rfl, hs2, hb2⟩
  have H2 := Lib.hid hs2
  have B2 := Lib.hid hb2
  clear hs2 hb2
  go_wp2
  go_ret2
  exact ⟨⟨w.heap.size + 1, gS, gF, oA, cap, _⟩, { w with heap := w.heap.push X }, rfl, by show w.heap.size ≤ w.heap.size + 1; omega, rfl, rfl, rfl, HW.out.1, by simp, HW.out.2.trans B2.out, H2.out, B1.out.trans (B2.out.mono (by omega))⟩


theorem stNew_ec (src : List UInt8) (m : Int) : (stNew src m).ec ≤ 2 := by
  have h0 : (st0 m).ec = 0 := rfl
  have h1 := nx_ec1 src (st0 m)
  have h2 := nx_ec1 src (nx src (st0 m))
  unfold stNew
  split <;> omega
theorem stNew_semi (src : List UInt8) (m : Int) : (stNew src m).semi = false := by
  unfold stNew
  split
  · rw [nx_semi, nx_semi]
    rfl
  · rw [nx_semi]
    rfl
theorem stNew_mode (src : List UInt8) (m : Int) : (stNew src m).mode = m := by
  unfold stNew
  split
  · rw [nx_mode, nx_mode]
    rfl
  · rw [nx_mode]
    rfl
end Go.Proofs.YtamfekpcoppbgaaFmt
