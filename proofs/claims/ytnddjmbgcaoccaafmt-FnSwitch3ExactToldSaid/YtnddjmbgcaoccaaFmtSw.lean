/-
  The scanner of the switch laws: built over the bytes of a string, moved k steps. Conditions: at most 65536 bytes and steps.
-/
import Derived.Test.YtnddjmbgcaoccaaFmtNewScan
import Derived.Lib.ConvBytes
import Derived.Lib.AtoiErrMem
namespace Go.Proofs.YtnddjmbgcaoccaaFmt
open Go.RowKit
set_option linter.unusedVariables false

def MkPost (oA : Option Addr) (cap : Nat) (src : List UInt8) (w : World) (e : Ending) (w' : World) : Prop :=
  ∃ F : Fix, e = .returned (.pointer (some ⟨F.gS, 0, none⟩)) ∧ w.heap.size ≤ F.B ∧ SC F src (stNew src 0) w' ∧ Below w.heap.size w w'

set_option maxHeartbeats 1000000 in
theorem mk_any (oA : Option Addr) (cap : Nat) (src : List UInt8) (w : World) (hsrc : SrcAt w w.heap.size oA src) (htab : Lib.Utf8Tabs 0 1 w) (hg : 0 < w.heap.size ∧ 1 < w.heap.size) (hn : src.length ≤ 1048576) (hcap : src.length ≤ cap) :
    Calls Tryf.prog 14 #[.slice oA src.length cap] w (MkPost oA cap src w) := by
  have hset := Blk.new w 51 #[.int .i64 1, .slice none 0 0, .pointer none]
  have HS := Lib.hid hset
  have HR := Lib.hid hsrc
  have HT := Lib.hid htab
  clear hset hsrc htab
  go_enter Tryf.func14, Tryf.ntmps14
  go_wp2_with (go_at_call 19; go_in)
  refine (addFile_any w.heap.size _ src.length _ HS.out hn).mono ?_
  rintro e w1 ⟨gF, lv, rfl, hgF, hf, hown, hos, htp, hout, hsz, hfr⟩
  have hsz0 : w.heap.size + 1 ≤ w1.heap.size := by simpa using hsz
  have hb1 : Below w.heap.size w w1 := ⟨hos, htp, hout, by omega, fun k hk => (hfr k (by simp; omega) (by omega)).trans (Below.heap_alloc _ _ _ hk)⟩
  have hgF0 : w.heap.size + 1 ≤ gF := by simpa using hgF
  have hown0 : w1.ownsRow (w.heap.size + 1) 3 1 lv 1 (lnCells [0]) := by
    have e : (w.alloc (.cells #[.int .i64 1, .slice none 0 0, .pointer none] 51)).heap.size = w.heap.size + 1 := by simp
    rw [e] at hown
    exact hown
  have hsrc1 : SrcAt w1 (w.heap.size + 1) oA src := by
    rcases HR.out with h0 | ⟨b, o, e, hb, hc⟩
    · exact Or.inl h0
    · exact Or.inr ⟨b, o, e, by omega, fun i hi => (hb1.cell (p := ⟨b, o + i, none⟩) hb).trans (hc i hi)⟩
  have htab1 := tabs_keep HT.out hg.1 hg.2 hb1.block
  have HN := Lib.hid (newScanner_any (w.heap.size + 1) gF oA cap _ src lv 0 w1 (by omega) hf hown0 hsrc1 htab1 (by omega) hgF0 hn hcap)
  have B1 := Lib.hid hb1
  clear hf hown hown0 hsrc1 htab1 hb1 hfr hos htp hout hgF hsz
  go_wp2_with fail
  refine HN.out.mono ?_
  rintro e w2 ⟨gS, rfl, hs2, hb2⟩
  have H2 := Lib.hid hs2
  have B2 := Lib.hid hb2
  clear hs2 hb2
  go_wp2
  go_ret
  exact ⟨⟨w.heap.size + 1, gS, gF, oA, cap, _⟩, rfl, by show w.heap.size ≤ w.heap.size + 1; omega, H2.out, B1.out.trans (B2.out.mono (by omega))⟩

theorem nx_ec (src : List UInt8) (s : St) : (nx src s).ec ≤ s.ec + 1 := by
  unfold nx
  split
  · show s.ec + (if badc src s.rd = true then 1 else 0) ≤ s.ec + 1
    split <;> omega
  · show s.ec ≤ s.ec + 1
    omega
theorem nxs_ec (src : List UInt8) : ∀ (k : Nat) (s : St), (nxs src k s).ec ≤ s.ec + k
  | 0, _ => Nat.le_refl _
  | k + 1, s => by
    have h1 := nxs_ec src k (nx src s)
    have h2 := nx_ec src s
    show (nxs src k (nx src s)).ec ≤ _
    omega
theorem stNew_ec (src : List UInt8) (m : Int) : (stNew src m).ec ≤ 2 := by
  have h0 : (st0 m).ec = 0 := rfl
  have h1 := nx_ec src (st0 m)
  have h2 := nx_ec src (nx src (st0 m))
  unfold stNew
  split <;> omega

set_option maxHeartbeats 400000 in
theorem zznext_any (F : Fix) (src : List UInt8) (s : St) (w : World) (h : SC F src s w) (hec : s.ec ≤ 4611686018427387904) :
    Calls Tryf.prog 15 #[.pointer (some ⟨F.gS, 0, none⟩)] w (NextPost F src (nx src s) w) := by
  have H := Lib.hid h
  clear h
  go_enter Tryf.func15, Tryf.ntmps15
  go_wp2_with (go_at_call 22; refine (next_any F src s _ H.out hec).mono ?_; rintro e w2 ⟨rfl, hs2, hb2⟩; have H2 := Lib.hid hs2; have B2 := Lib.hid hb2; clear hs2 hb2)
  go_end0
  exact ⟨rfl, H2.out, B2.out⟩
set_option maxHeartbeats 400000 in
theorem zzoff_any (F : Fix) (src : List UInt8) (s : St) (w : World) (h : SC F src s w) :
    Calls Tryf.prog 9 #[.pointer (some ⟨F.gS, 0, none⟩)] w fun e w' => e = .returned (.int .i64 s.off) ∧ w = w' := by
  have c3 : w.cell? ⟨F.gS, 3, none⟩ = some (.int .i64 s.off) := by rw [h.blkS.cell]; rfl
  clear h
  go_enter Tryf.func9, Tryf.ntmps9
  go_wp2
  go_ret
  exact ⟨rfl, rfl⟩

def AtPost (src : List UInt8) (k : Nat) (w : World) (e : Ending) (w' : World) : Prop :=
  ∃ F : Fix, e = .returned (.tuple #[.pointer (some ⟨F.gS, 0, none⟩), .int .i64 (nxs src k (stNew src 0)).off]) ∧ w.heap.size ≤ F.B ∧ SC F src (nxs src k (stNew src 0)) w' ∧ Below w.heap.size w w'

set_option maxHeartbeats 1000000 in
theorem at_any (src : List UInt8) (k : Nat) (w : World) (htab : Lib.Utf8Tabs 0 1 w) (hg : 0 < w.heap.size ∧ 1 < w.heap.size) (hn : src.length ≤ 65536) (hk : k ≤ 65536) :
    Calls Tryf.prog 7 #[.string ⟨src.toArray⟩, .int .i64 k] w (AtPost src k w) := by
  have hconv := Lib.run_convert_string_bytes (P := Tryf.prog) w 9 33 5 ⟨src.toArray⟩ Tryf.underlying9 Tryf.underlying33 Tryf.underlying5
  have hb0 : Below w.heap.size w (Lib.bytesWorld w 5 ⟨src.toArray⟩) := Lib.bytesWorld_below w _ _
  have hsz0 := Lib.bytesWorld_size w 5 ⟨src.toArray⟩
  have hcells : ∀ i (h : i < src.length), (Lib.bytesWorld w 5 ⟨src.toArray⟩).cell? ⟨w.heap.size, 0 + i, none⟩ = some (.int .u8 (src[i].toNat : Int)) := by
    intro i h
    have := Lib.bytesWorld_cell w 5 ⟨src.toArray⟩ i (by simpa [ByteArray.size] using h)
    rw [Nat.zero_add, this]
    simp [List.getD, h]
  have hcap : src.length ≤ grownCap w (⟨src.toArray⟩ : ByteArray).size 0 5 := by
    have := grownCap_ge w (⟨src.toArray⟩ : ByteArray).size 0 5
    simpa [ByteArray.size] using this
  have es : (⟨src.toArray⟩ : ByteArray).size = src.length := by simp [ByteArray.size]
  rw [es] at hconv hcap
  generalize grownCap w src.length 0 5 = cap at hconv hcap
  generalize Lib.bytesWorld w 5 ⟨src.toArray⟩ = w0 at hconv hb0 hsz0 hcells
  have htab0 := tabs_keep htab hg.1 hg.2 hb0.block
  have HM := Lib.hid (mk_any (some ⟨w.heap.size, 0, none⟩) cap src w0 (Or.inr ⟨w.heap.size, 0, rfl, by omega, hcells⟩) htab0 (by omega) (by omega) hcap)
  have B0 := Lib.hid hb0
  have S0 := Lib.hid hsz0
  clear hcells htab0 htab hb0 hsz0 es
  go_enter Tryf.func7, Tryf.ntmps7
  go_wp2_with fail
  refine HM.out.mono ?_
  rintro e w1 ⟨F, rfl, hFB, hs1, hb1⟩
  have hB1 : Below w.heap.size w w1 := B0.out.trans (hb1.mono (by have := S0.out; omega))
  have hFB0 : w.heap.size ≤ F.B := by have := S0.out; omega
  have H1 := Lib.hid hs1
  have B1 := Lib.hid hB1
  clear hs1 hb1 hB1 hFB HM B0 S0 hconv
  go_wp2_with fail
  go_loopw [7] (fun i wr => ∃ j : Nat, j ≤ k ∧ i = .int .i64 j ∧ SC F src (nxs src j (stNew src 0)) wr ∧ Below w.heap.size w wr) (fun i _ => k - (intOf i).toNat)
  case atStart => exact ⟨0, Nat.zero_le _, rfl, H1.out, B1.out⟩
  case round =>
    obtain ⟨j, hj, rfl, hs, hb⟩ := hrel
    have HS := Lib.hid hs
    have HB := Lib.hid hb
    clear hs hb H1 B1
    have hec : (nxs src j (stNew src 0)).ec ≤ 4611686018427387904 := by
      have h1 := nxs_ec src j (stNew src 0)
      have h2 := stNew_ec src 0
      omega
    by_cases hlt : j < k
    · go_wp2_with (go_at_call 15; refine (zznext_any F src _ _ HS.out hec).mono ?_; rintro e w2 ⟨rfl, hs2, hb2⟩; have H2 := Lib.hid hs2; have B2 := Lib.hid hb2; clear hs2 hb2)
      go_roundw
      case rel => exact ⟨j + 1, by omega, by go_num, by rw [nxs_succ]; exact H2.out, HB.out.trans (B2.out.mono hFB0)⟩
      case measure => simp [intOf]; omega
    · obtain rfl : j = k := by omega
      go_wp2_with (go_at_call 9; refine (zzoff_any F src _ _ HS.out).mono ?_; rintro e w' ⟨rfl, rfl⟩)
      go_ret2
      exact ⟨F, rfl, hFB0, HS.out, HB.out⟩

end Go.Proofs.YtnddjmbgcaoccaaFmt
