/-
  The scanner of the n002_96 laws: built over the bytes of a slice; what its exported helpers answer. Conditions: at most 2^20 bytes.
-/
import Derived.Test.YtamfekpcoppbgaaFmtNewScan
import Derived.Test.YtamfekpcoppbgaaFmtClone96
namespace Go.Proofs.YtamfekpcoppbgaaFmt
open Go.RowKit
set_option maxRecDepth 100000
set_option linter.unusedVariables false

def MkPost (oA : Option Addr) (cap : Nat) (src : List UInt8) (w : World) (e : Ending) (w' : World) : Prop :=
  ∃ F : Fix, e = .returned (.tuple #[.pointer (some ⟨F.gS, 0, none⟩), .pointer (some ⟨F.gF, 0, none⟩)]) ∧ w.heap.size ≤ F.B ∧ F.oA = oA ∧ F.cap = cap ∧ F.fx.base = 1 ∧ SC F src (stNew src 0) w' ∧ Below w.heap.size w w'

set_option maxHeartbeats 1000000 in
theorem mk_any (oA : Option Addr) (cap : Nat) (src : List UInt8) (w : World) (hsrc : SrcAt w w.heap.size oA src) (htab : Lib.Utf8Tabs 4 5 w) (hg : 4 < w.heap.size ∧ 5 < w.heap.size) (hn : src.length ≤ 1048576) (hcap : src.length ≤ cap) :
    Calls Tryf.prog 10 #[.slice oA src.length cap] w (MkPost oA cap src w) := by
  have hset := Blk.new w 78 #[.int .i64 1, .slice none 0 0, .pointer none]
  have HS := Lib.hid hset
  have HR := Lib.hid hsrc
  have HT := Lib.hid htab
  clear hset hsrc htab
  go_enter Tryf.func10, Tryf.ntmps10
  go_wp2_with (go_at_call 27; go_in)
  refine (addFile_any w.heap.size _ src.length _ HS.out hn).mono ?_
  rintro e w1 ⟨gF, lv, rfl, hgF, hf, hown, hos, htp, hout, hsz, hfr⟩
  have hsz0 : w.heap.size + 1 ≤ w1.heap.size := by simpa using hsz
  have hb1 : Below w.heap.size w w1 := ⟨hos, htp, hout, by omega, fun k hk => (hfr k (by simp; omega) (by omega)).trans (Below.heap_alloc _ _ _ hk)⟩
  have hgF0 : w.heap.size + 1 ≤ gF := by simpa using hgF
  have hown0 : w1.ownsRow (w.heap.size + 1) 3 1 lv 1 (lnCells [0]) := by
    have e : (w.alloc (.cells #[.int .i64 1, .slice none 0 0, .pointer none] 78)).heap.size = w.heap.size + 1 := by simp
    rw [e] at hown
    exact hown
  have hsrc1 : SrcAt w1 (w.heap.size + 1) oA src := (HR.out.keep hb1.block).more (by omega)
  have htab1 := tabs_keep HT.out hg.1 hg.2 hb1.block
  have HN := Lib.hid (newScanner_any (w.heap.size + 1) gF oA cap _ src lv 0 w1 (by omega) hf hown0 hsrc1 htab1 (by omega) hgF0 hn hcap)
  have B1 := Lib.hid hb1
  clear hf hown hown0 hsrc1 htab1 hb1 hfr hos htp hout hgF hsz
  go_wp2_with fail
  refine HN.out.mono ?_
  rintro e w2 ⟨gS, rfl, hs2, hb2⟩
  have H2 := Lib.hid hs2
  have B2 := Lib.hid hb2
  clear hs2 hb2
  go_wp2
  go_ret2
  exact ⟨⟨w.heap.size + 1, gS, gF, oA, cap, _⟩, rfl, by show w.heap.size ≤ w.heap.size + 1; omega, rfl, rfl, rfl, H2.out, B1.out.trans (B2.out.mono (by omega))⟩

theorem nx_ec (src : List UInt8) (s : St) : (nx src s).ec ≤ s.ec + 1 := by
  unfold nx
  split
  · show s.ec + (if badc src s.rd = true then 1 else 0) ≤ s.ec + 1
    split <;> omega
  · show s.ec ≤ s.ec + 1
    omega
theorem stNew_ec (src : List UInt8) (m : Int) : (stNew src m).ec ≤ 2 := by
  have h0 : (st0 m).ec = 0 := rfl
  have h1 := nx_ec src (st0 m)
  have h2 := nx_ec src (nx src (st0 m))
  unfold stNew
  split <;> omega

set_option maxHeartbeats 400000 in
theorem zznext_any (F : Fix) (src : List UInt8) (s : St) (w : World) (h : SC F src s w) (hec : s.ec ≤ 4611686018427387904) :
    Calls Tryf.prog 22 #[.pointer (some ⟨F.gS, 0, none⟩)] w (NextPost F src (nx src s) w) := by
  have H := Lib.hid h
  clear h
  go_enter Tryf.func22, Tryf.ntmps22
  go_wp2_with (go_at_call 37; refine (next_any F src s _ H.out hec).mono ?_; rintro e w2 ⟨rfl, hs2, hb2⟩; have H2 := Lib.hid hs2; have B2 := Lib.hid hb2; clear hs2 hb2)
  go_end0
  exact ⟨rfl, H2.out, B2.out⟩
set_option maxHeartbeats 400000 in
theorem zzoff_any (F : Fix) (src : List UInt8) (s : St) (w : World) (h : SC F src s w) :
    Calls Tryf.prog 20 #[.pointer (some ⟨F.gS, 0, none⟩)] w fun e w' => e = .returned (.int .i64 s.off) ∧ w = w' := by
  have c3 : w.cell? ⟨F.gS, 3, none⟩ = some (.int .i64 s.off) := by rw [h.blkS.cell]; rfl
  clear h
  go_enter Tryf.func20, Tryf.ntmps20
  go_wp2
  go_ret
  exact ⟨rfl, rfl⟩
set_option maxHeartbeats 400000 in
theorem zzch_any (F : Fix) (src : List UInt8) (s : St) (w : World) (h : SC F src s w) :
    Calls Tryf.prog 19 #[.pointer (some ⟨F.gS, 0, none⟩)] w fun e w' => e = .returned (.int .i32 s.ch) ∧ w = w' := by
  have c2 : w.cell? ⟨F.gS, 2, none⟩ = some (.int .i32 s.ch) := by rw [h.blkS.cell]; rfl
  clear h
  go_enter Tryf.func19, Tryf.ntmps19
  go_wp2
  go_ret
  exact ⟨rfl, rfl⟩
/-- the byte that peek shows -/
def pk (src : List UInt8) (s : St) : Nat := if s.rd < src.length then bt src s.rd else 0
def PeekPost (F : Fix) (src : List UInt8) (s : St) (w : World) (e : Ending) (w' : World) : Prop := e = .returned (.int .u8 (pk src s)) ∧ SC F src s w' ∧ Below F.B w w'
set_option maxHeartbeats 400000 in
theorem peek_any (F : Fix) (src : List UInt8) (s : St) (w : World) (h : SC F src s w) :
    Calls Tryf.prog 35 #[.pointer (some ⟨F.gS, 0, none⟩)] w (PeekPost F src s w) := by
  have c1 : w.cell? ⟨F.gS, 1, none⟩ = some (.slice F.oA src.length F.cap) := by rw [h.blkS.cell]; rfl
  have c4 : w.cell? ⟨F.gS, 4, none⟩ = some (.int .i64 s.rd) := by rw [h.blkS.cell]; rfl
  have hrd := h.rd
  have hln := h.len
  have H := Lib.hid h
  clear h
  by_cases hlt : s.rd < src.length
  · have t0 : decide ((s.rd : Int) < (src.length : Int)) = true := by simpa using hlt
    go_enter Tryf.func35, Tryf.ntmps35
    go_wp2_with fail
    go_quiet (fail)
    have hs1 := H.out.drewN nq
    have hb1 := below_drewN0 (Below.refl F.B w) nq
    generalize w.drewN nq = w1 at hs1 hb1 ⊢
    clear c1 c4
    obtain ⟨b, o, e, hb, hc⟩ := hs1.srcAt.at_ (by omega)
    have c1 : w1.cell? ⟨F.gS, 1, none⟩ = some (.slice (some ⟨b, o, none⟩) src.length F.cap) := by rw [hs1.blkS.cell, ← e]; rfl
    have c4 : w1.cell? ⟨F.gS, 4, none⟩ = some (.int .i64 s.rd) := by rw [hs1.blkS.cell]; rfl
    have hcc : w1.cell? ⟨b, o + s.rd, none⟩ = some (.int .u8 (pk src s : Int)) := by
      rw [hc s.rd hlt]
      simp [pk, bt, hlt, List.getD]
    obtain ⟨z, hz⟩ : ∃ z, pk src s = z := ⟨_, rfl⟩
    rw [hz] at hcc
    have HZ := Lib.hid hz
    clear hz
    have H1 := Lib.hid hs1
    have B1 := Lib.hid hb1
    clear hs1 hb1 hc e
    go_wp2_with fail
    go_quiet (fail)
    go_wp2
    go_ret
    exact ⟨by rw [HZ.out]; rfl, H1.out.drewN _, below_drewN0 B1.out _⟩
  · have t0 : decide ((s.rd : Int) < (src.length : Int)) = false := by simpa using hlt
    have e0 : pk src s = 0 := by simp [pk, hlt]
    go_enter Tryf.func35, Tryf.ntmps35
    go_wp2_with fail
    go_quiet (fail)
    go_wp2
    go_ret
    exact ⟨by rw [e0]; rfl, H.out.drewN _, below_drewN0 (Below.refl F.B w) _⟩
set_option maxHeartbeats 400000 in
theorem zzpeek_any (F : Fix) (src : List UInt8) (s : St) (w : World) (h : SC F src s w) :
    Calls Tryf.prog 21 #[.pointer (some ⟨F.gS, 0, none⟩)] w (PeekPost F src s w) := by
  have H := Lib.hid h
  clear h
  go_enter Tryf.func21, Tryf.ntmps21
  go_wp2_with (go_at_call 35; refine (peek_any F src s _ H.out).mono ?_; rintro e w2 ⟨rfl, hs2, hb2⟩; have H2 := Lib.hid hs2; have B2 := Lib.hid hb2; clear hs2 hb2)
  go_ret
  exact ⟨rfl, H2.out, B2.out⟩

/-- a step along the walk: the states, how far they are, how many errors they count -/
structure Along (src : List UInt8) (j : Nat) (s : St) : Prop where
  good : Good src s
  far : j ≤ s.off
  ec : s.ec ≤ j + 2
theorem Along.first (src : List UInt8) : Along src 0 (stNew src 0) := ⟨stNew_good src 0, Nat.zero_le _, by have := stNew_ec src 0; omega⟩
theorem Along.at_end {src : List UInt8} {j : Nat} {s : St} (h : Along src j s) : (s.ch = -1 ↔ s.off = src.length) ∧ j ≤ src.length ∧ (s.ch ≠ -1 → j < src.length) := by
  have h2 := h.far
  rcases h.good with ⟨h1, h3, h4⟩ | ⟨h1, h3, h4⟩
  · refine ⟨⟨fun h => ?_, fun h => ?_⟩, ?_, fun _ => ?_⟩ <;> omega
  · refine ⟨⟨fun h => ?_, fun h => ?_⟩, ?_, fun _ => ?_⟩ <;> first | omega | contradiction
theorem Along.next {src : List UInt8} {j : Nat} {s : St} (h : Along src j s) (hc : s.ch ≠ -1) : Along src (j + 1) (nx src s) := by
  have he := nx_ec src s
  have hec := h.ec
  refine ⟨nx_good src s h.good.le.2.1, ?_, by omega⟩
  have h2 := h.far
  have h3 := h.good.le
  rcases h.good with ⟨h1, h4, h5⟩ | ⟨h1, h4, h5⟩
  · have := rn_facts src s.off h1
    unfold nx
    split
    · show j + 1 ≤ s.rd
      omega
    · show j + 1 ≤ src.length
      omega
  · exact absurd h5 hc
/-- what peek foretells -/
theorem peek_tells {src : List UInt8} {s : St} (hrd : s.rd ≤ src.length) : ((nx src s).ch = -1 → pk src s = 0) ∧ ((nx src s).ch ≠ -1 → (nx src s).off = s.rd ∧ s.rd < src.length ∧ pk src s = bt src s.rd) := by
  unfold nx pk
  by_cases h : s.rd < src.length
  · rw [if_pos h, if_pos h]
    refine ⟨fun hc => ?_, fun _ => ⟨rfl, h, rfl⟩⟩
    have hc' : ((rn src s.rd).1 : Int) = -1 := hc
    omega
  · rw [if_neg h, if_neg h]
    exact ⟨fun _ => rfl, fun hc => absurd rfl hc⟩

end Go.Proofs.YtamfekpcoppbgaaFmt
