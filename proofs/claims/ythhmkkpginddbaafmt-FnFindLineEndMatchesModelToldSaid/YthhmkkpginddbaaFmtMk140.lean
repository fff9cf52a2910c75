/-
  The scanner of the n002_140 laws and its exported helpers. Conditions: at most 2^20 bytes.
-/
import Derived.Test.YthhmkkpginddbaaFmtNewScan
import Derived.Test.YthhmkkpginddbaaFmtClone140
namespace Go.Proofs.YthhmkkpginddbaaFmt
open Go.RowKit
set_option maxRecDepth 100000
set_option linter.unusedVariables false

def MkPost (oA : Option Addr) (cap : Nat) (src : List UInt8) (w : World) (e : Ending) (w' : World) : Prop :=
  ∃ F : Fix, e = .returned (.pointer (some ⟨F.gS, 0, none⟩)) ∧ w.heap.size ≤ F.B ∧ F.oA = oA ∧ F.cap = cap ∧ SC F src (stNew src 0) w' ∧ Below w.heap.size w w'

set_option maxHeartbeats 1000000 in
theorem mk_any (oA : Option Addr) (cap : Nat) (src : List UInt8) (w : World) (hsrc : SrcAt w w.heap.size oA src) (htab : Lib.Utf8Tabs 1 2 w) (hg : 1 < w.heap.size ∧ 2 < w.heap.size) (hn : src.length ≤ 1048576) (hcap : src.length ≤ cap) :
    Calls Tryf.prog 11 #[.slice oA src.length cap] w (MkPost oA cap src w) := by
  have hset := Blk.new w 60 #[.int .i64 1, .slice none 0 0, .pointer none]
  have HS := Lib.hid hset
  have HR := Lib.hid hsrc
  have HT := Lib.hid htab
  clear hset hsrc htab
  go_enter Tryf.func11, Tryf.ntmps11
  go_wp2_with (go_at_call 29; go_in)
  refine (addFile_any w.heap.size _ src.length _ HS.out hn).mono ?_
  rintro e w1 ⟨gF, lv, rfl, hgF, hf, hown, hos, htp, hout, hsz, hfr⟩
  have hsz0 : w.heap.size + 1 ≤ w1.heap.size := by simpa using hsz
  have hb1 : Below w.heap.size w w1 := ⟨hos, htp, hout, by omega, fun k hk => (hfr k (by simp; omega) (by omega)).trans (Below.heap_alloc _ _ _ hk)⟩
  have hgF0 : w.heap.size + 1 ≤ gF := by simpa using hgF
  have hown0 : w1.ownsRow (w.heap.size + 1) 3 1 lv 1 (lnCells [0]) := by
    have e : (w.alloc (.cells #[.int .i64 1, .slice none 0 0, .pointer none] 60)).heap.size = w.heap.size + 1 := by simp
    rw [e] at hown
    exact hown
  have hsrc1 : SrcAt w1 (w.heap.size + 1) oA src := by
    rcases HR.out with h0 | ⟨b, o, e, hb, hc⟩
    · exact Or.inl h0
    · exact Or.inr ⟨b, o, e, by omega, fun i hi => (hb1.cell (p := ⟨b, o + i, none⟩) hb).trans (hc i hi)⟩
  have htab1 := tabs_keep HT.out hg.1 hg.2 hb1.block
  have HN := Lib.hid (newScanner_any (w.heap.size + 1) gF oA cap _ src lv 0 w1 (by omega) hf hown0 hsrc1 htab1 (by omega) hgF0 hn hcap)
  have B1 := Lib.hid hb1
  clear hf hown hown0 hsrc1 htab1 hb1 hfr hos htp hout hgF hsz
  go_wp2_with fail
  refine HN.out.mono ?_
  rintro e w2 ⟨gS, rfl, hs2, hb2⟩
  have H2 := Lib.hid hs2
  have B2 := Lib.hid hb2
  clear hs2 hb2
  go_wp2
  go_ret
  exact ⟨⟨w.heap.size + 1, gS, gF, oA, cap, _⟩, rfl, by show w.heap.size ≤ w.heap.size + 1; omega, rfl, rfl, H2.out, B1.out.trans (B2.out.mono (by omega))⟩

theorem nx_ec (src : List UInt8) (s : St) : (nx src s).ec ≤ s.ec + 1 := by
  unfold nx
  split
  · show s.ec + (if badc src s.rd = true then 1 else 0) ≤ s.ec + 1
    split <;> omega
  · show s.ec ≤ s.ec + 1
    omega
theorem stNew_ec (src : List UInt8) (m : Int) : (stNew src m).ec ≤ 2 := by
  have h0 : (st0 m).ec = 0 := rfl
  have h1 := nx_ec src (st0 m)
  have h2 := nx_ec src (nx src (st0 m))
  unfold stNew
  split <;> omega

set_option maxHeartbeats 400000 in
theorem zznext_any (F : Fix) (src : List UInt8) (s : St) (w : World) (h : SC F src s w) (hec : s.ec ≤ 4611686018427387904) :
    Calls Tryf.prog 12 #[.pointer (some ⟨F.gS, 0, none⟩)] w (NextPost F src (nx src s) w) := by
  have H := Lib.hid h
  clear h
  go_enter Tryf.func12, Tryf.ntmps12
  go_wp2_with (go_at_call 31; refine (next_any F src s _ H.out hec).mono ?_; rintro e w2 ⟨rfl, hs2, hb2⟩; have H2 := Lib.hid hs2; have B2 := Lib.hid hb2; clear hs2 hb2)
  go_end0
  exact ⟨rfl, H2.out, B2.out⟩
set_option maxHeartbeats 400000 in
theorem zzoff_any (F : Fix) (src : List UInt8) (s : St) (w : World) (h : SC F src s w) :
    Calls Tryf.prog 13 #[.pointer (some ⟨F.gS, 0, none⟩)] w fun e w' => e = .returned (.int .i64 s.off) ∧ w = w' := by
  have c3 : w.cell? ⟨F.gS, 3, none⟩ = some (.int .i64 s.off) := by rw [h.blkS.cell]; rfl
  clear h
  go_enter Tryf.func13, Tryf.ntmps13
  go_wp2
  go_ret
  exact ⟨rfl, rfl⟩

set_option maxHeartbeats 400000 in
theorem zzch_any (F : Fix) (src : List UInt8) (s : St) (w : World) (h : SC F src s w) :
    Calls Tryf.prog 16 #[.pointer (some ⟨F.gS, 0, none⟩)] w fun e w' => e = .returned (.int .i32 s.ch) ∧ w = w' := by
  have c3 : w.cell? ⟨F.gS, 2, none⟩ = some (.int .i32 s.ch) := by rw [h.blkS.cell]; rfl
  clear h
  go_enter Tryf.func16, Tryf.ntmps16
  go_wp2
  go_ret
  exact ⟨rfl, rfl⟩

set_option maxHeartbeats 400000 in
theorem errcount_any (F : Fix) (src : List UInt8) (s : St) (w : World) (h : SC F src s w) :
    Calls Tryf.prog 14 #[.pointer (some ⟨F.gS, 0, none⟩)] w fun e w' => e = .returned (.int .i64 s.ec) ∧ w = w' := by
  have c3 : w.cell? ⟨F.gS, 8, none⟩ = some (.int .i64 s.ec) := by rw [h.blkS.cell]; rfl
  clear h
  go_enter Tryf.func14, Tryf.ntmps14
  go_wp2
  go_ret
  exact ⟨rfl, rfl⟩


end Go.Proofs.YthhmkkpginddbaaFmt
