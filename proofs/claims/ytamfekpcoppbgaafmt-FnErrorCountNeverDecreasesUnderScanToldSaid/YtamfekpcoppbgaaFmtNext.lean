/-
  What the scanner's next does: one step of the plain model. Conditions: the error handler is nil, the source has at most 2^20 bytes.
-/
import Derived.Test.YtamfekpcoppbgaaFmtScanS
import Derived.Deep.DeepCutAuto
import Derived.Deep.RegionHeld3
namespace Go.Proofs.YtamfekpcoppbgaaFmt
open Go.RowKit
set_option maxRecDepth 100000

def NextPost (F : Fix) (src : List UInt8) (s' : St) (w : World) (e : Ending) (w' : World) : Prop := e = .returned (.tuple #[]) ∧ SC F src s' w' ∧ Below F.B w w'

/-- the state behind the part that records a new line -/
def sNl (src : List UInt8) (o : Nat) (s : St) : St := nl src.length o { s with off := o }

theorem scCells_off (gF : Nat) (oA : Option Addr) (n cap : Nat) (s : St) (o : Nat) : (scCells gF oA n cap s).setIfInBounds 3 (.int .i64 (o : Int)) = scCells gF oA n cap { s with off := o } := by simp [scCells]
theorem scCells_lo (gF : Nat) (oA : Option Addr) (n cap : Nat) (s : St) (o : Nat) : (scCells gF oA n cap s).setIfInBounds 5 (.int .i64 (o : Int)) = scCells gF oA n cap { s with lo := o } := by simp [scCells]
theorem scCells_ch (gF : Nat) (oA : Option Addr) (n cap : Nat) (s : St) (c : Int) : (scCells gF oA n cap s).setIfInBounds 2 (.int .i32 c) = scCells gF oA n cap { s with ch := c } := by simp [scCells]
theorem scCells_rd (gF : Nat) (oA : Option Addr) (n cap : Nat) (s : St) (o : Nat) : (scCells gF oA n cap s).setIfInBounds 4 (.int .i64 (o : Int)) = scCells gF oA n cap { s with rd := o } := by simp [scCells]
theorem scCells_ec (gF : Nat) (oA : Option Addr) (n cap : Nat) (s : St) (o : Nat) : (scCells gF oA n cap s).setIfInBounds 8 (.int .i64 (o : Int)) = scCells gF oA n cap { s with ec := o } := by simp [scCells]
theorem scCells_semi (gF : Nat) (oA : Option Addr) (n cap : Nat) (s : St) (b : Bool) : (scCells gF oA n cap s).setIfInBounds 6 (.bool b) = scCells gF oA n cap { s with semi := b } := by simp [scCells]

section
variable {F : Fix} {src : List UInt8} {s : St} {w : World}
theorem SC.drewN (h : SC F src s w) (n : Nat) : SC F src s (w.drewN n) := h.write ((OnlyS.refl _ _).drewN n) h.blkS rfl h.rd h.off h.lo h.ch
theorem SC.drew (h : SC F src s w) : SC F src s w.drew := h.write ((OnlyS.refl _ _).drew) h.blkS rfl h.rd h.off h.lo h.ch
theorem SC.setOff (h : SC F src s w) (o : Nat) (ho : o ≤ src.length) : SC F src { s with off := o } (w.setCell ⟨F.gS, 3, none⟩ (.int .i64 (o : Int))) :=
  h.write ((OnlyS.refl _ _).put 3 _) (by rw [← scCells_off]; exact h.blkS.put 3 _) rfl h.rd ho h.lo h.ch
theorem SC.setLo (h : SC F src s w) (o : Nat) (ho : o ≤ src.length) : SC F src { s with lo := o } (w.setCell ⟨F.gS, 5, none⟩ (.int .i64 (o : Int))) :=
  h.write ((OnlyS.refl _ _).put 5 _) (by rw [← scCells_lo]; exact h.blkS.put 5 _) rfl h.rd h.off ho h.ch
theorem SC.setRd (h : SC F src s w) (o : Nat) (ho : o ≤ src.length) : SC F src { s with rd := o } (w.setCell ⟨F.gS, 4, none⟩ (.int .i64 (o : Int))) :=
  h.write ((OnlyS.refl _ _).put 4 _) (by rw [← scCells_rd]; exact h.blkS.put 4 _) rfl ho h.off h.lo h.ch
theorem SC.setCh (h : SC F src s w) (c : Int) (hc : -1 ≤ c ∧ c ≤ 1114111) : SC F src { s with ch := c } (w.setCell ⟨F.gS, 2, none⟩ (.int .i32 c)) :=
  h.write ((OnlyS.refl _ _).put 2 _) (by rw [← scCells_ch]; exact h.blkS.put 2 _) rfl h.rd h.off h.lo hc
theorem SC.setEc (h : SC F src s w) (o : Nat) : SC F src { s with ec := o } (w.setCell ⟨F.gS, 8, none⟩ (.int .i64 (o : Int))) :=
  h.write ((OnlyS.refl _ _).put 8 _) (by rw [← scCells_ec]; exact h.blkS.put 8 _) rfl h.rd h.off h.lo h.ch
theorem SC.setSemi (h : SC F src s w) (b : Bool) : SC F src { s with semi := b } (w.setCell ⟨F.gS, 6, none⟩ (.bool b)) :=
  h.write ((OnlyS.refl _ _).put 6 _) (by rw [← scCells_semi]; exact h.blkS.put 6 _) rfl h.rd h.off h.lo h.ch
theorem SC.put_below (h : SC F src s w) (i : Nat) (u : Value) : Below F.B w (w.setCell ⟨F.gS, i, none⟩ u) := ((OnlyS.refl F.gS w).put i u).below h.hS
end
theorem below_drew_left {w w' : World} (h : Below w.drew.heap.size w.drew w') : Below w.heap.size w w' := ⟨h.os, h.tape, h.output, h.size, h.block⟩
theorem below_drewN0 {B : Nat} {a w : World} (h : Below B a w) (n : Nat) : Below B a (w.drewN n) := ⟨h.os, h.tape, h.output, h.size, h.block⟩

set_option maxHeartbeats 1000000 in
theorem next_eof (F : Fix) (src : List UInt8) (s : St) (w : World) (h : SC F src s w) (hr : ¬ s.rd < src.length) :
    Calls Tryf.prog 37 #[.pointer (some ⟨F.gS, 0, none⟩)] w (NextPost F src (nx src s) w) := by
  have c0 : w.cell? ⟨F.gS, 0, none⟩ = some (.pointer (some ⟨F.gF, 0, none⟩)) := by rw [h.blkS.cell]; rfl
  have c1 : w.cell? ⟨F.gS, 1, none⟩ = some (.slice F.oA src.length F.cap) := by rw [h.blkS.cell]; rfl
  have c2 : w.cell? ⟨F.gS, 2, none⟩ = some (.int .i32 s.ch) := by rw [h.blkS.cell]; rfl
  have c3 : w.cell? ⟨F.gS, 3, none⟩ = some (.int .i64 s.off) := by rw [h.blkS.cell]; rfl
  have c4 : w.cell? ⟨F.gS, 4, none⟩ = some (.int .i64 s.rd) := by rw [h.blkS.cell]; rfl
  have c5 : w.cell? ⟨F.gS, 5, none⟩ = some (.int .i64 s.lo) := by rw [h.blkS.cell]; rfl
  have f2 := h.blkS.free 2
  have f3 := h.blkS.free 3
  have f5 := h.blkS.free 5
  have hlen := h.len
  have hrd := h.rd
  have H := Lib.hid h
  clear h
  have tr : decide ((s.rd : Int) < (src.length : Int)) = false := by simp; omega
  go_enter Tryf.func37, Tryf.ntmps37
  go_wp2_with fail
  go_quiet (fail)
  go_upto_if 129 with fail
  have H1 := Lib.hid ((H.out.drewN nq).setOff src.length (Nat.le_refl _))
  have B1 := Lib.hid (below_drewN0 (Below.refl F.B w) nq |>.trans ((H.out.drewN nq).put_below 3 (.int .i64 (src.length : Int))))
  go_cut [] (fun wx => SC F src (sNl src src.length s) wx ∧ Below F.B w wx)
  case first =>
    by_cases hch : s.ch = 10
    · have tc : (s.ch == 10) = true := by simpa using hch
      have HC := Lib.hid hch
      clear hch
      go_wp2_with fail
      have hs2 := H1.out.setLo src.length (Nat.le_refl _)
      have hb2 := B1.out.trans (H1.out.put_below 5 (.int .i64 (src.length : Int)))
      generalize (((w.drewN nq).setCell ⟨F.gS, 3, none⟩ (.int .i64 (src.length : Int))).setCell ⟨F.gS, 5, none⟩ (.int .i64 (src.length : Int))) = w2 at hs2 hb2
      have d0 : w2.cell? ⟨F.gS, 0, none⟩ = some (.pointer (some ⟨F.gF, 0, none⟩)) := by rw [hs2.blkS.cell]; rfl
      have d3 : w2.cell? ⟨F.gS, 3, none⟩ = some (.int .i64 src.length) := by rw [hs2.blkS.cell]; rfl
      have H2 := Lib.hid hs2
      have B2 := Lib.hid hb2
      clear hs2 hb2 c0 c1 c2 c3 c4 c5 f2 f3 f5 H1 B1
      go_still_tail 8, (by kernel_rfl)
      change wpList _ _ _ _ _ w2.drew
      have hs3 := H2.out.drew
      have hb3 := B2.out.drew
      generalize w2.drew = w3 at hs3 hb3 ⊢
      obtain ⟨lv, hf, hown⟩ := hs3.file
      have hBw : F.B ≤ w3.heap.size := by have := hs3.hS; have := hs3.blkS.lt; omega
      have HC2 := Lib.hid (addLine_any F.B F.gF F.fx src.length s.lines lv src.length w3 hf hown hs3.lines hs3.len (Nat.le_refl _) hBw)
      have HF := Lib.hid hf
      have HO := Lib.hid hown
      have H3 := Lib.hid hs3
      have B3 := Lib.hid hb3
      clear hf hown hs3 hb3 H2 B2 d0 d3
      go_wp2_with (go_at_call 55; refine HC2.out.mono ?_; rintro e w4 ⟨rfl, hpost⟩; have HP := Lib.hid hpost; clear hpost)
      go_meet
      obtain ⟨lv', hf', hown', honly⟩ := HP.out
      have ha := H3.out.added HF.out HO.out honly (addLine_ok H3.out.lines) ⟨lv', hf', hown'⟩
      have e : sNl src src.length s = { s with off := src.length, lo := src.length, lines := addLine src.length src.length s.lines } := by
        unfold sNl nl
        simp only [HC.out, if_true]
      rw [e]
      exact ⟨ha.1, B3.out.trans ha.2⟩
    · have tc : (s.ch == 10) = false := by simpa using hch
      have HC := Lib.hid hch
      clear hch
      go_wp2_with fail
      go_meet
      have e : sNl src src.length s = { s with off := src.length } := by
        unfold sNl nl
        simp only [HC.out, if_false]
      rw [e]
      exact ⟨H1.out, B1.out⟩
  case rest =>
    obtain ⟨hs, hb⟩ := hcut
    have d2 : wc.cell? ⟨F.gS, 2, none⟩ = some (.int .i32 s.ch) := by rw [hs.blkS.cell]; rfl
    have e2 := hs.blkS.free 2
    have H2 := Lib.hid hs
    have B2 := Lib.hid hb
    clear hs hb
    go_wp2
    go_end0
    have e : nx src s = { sNl src src.length s with ch := -1 } := by
      unfold nx
      rw [if_neg hr]
      rfl
    refine ⟨rfl, ?_, ?_⟩
    · rw [e]
      exact H2.out.setCh (-1) (by omega)
    · exact B2.out.trans (H2.out.put_below 2 _)

theorem decode_src (src : List UInt8) (i : Nat) (hi : i < src.length) (b o cap : Nat) (w : World) (hT : Lib.Utf8Tabs 4 5 w) (hc : ∀ j (h : j < src.length), w.cell? ⟨b, o + j, none⟩ = some (.int .u8 (src[j].toNat : Int))) :
    Calls Tryf.prog 56 #[.slice (some ⟨b, o + i, none⟩) (src.length - i) cap] w fun e w' => e = .returned (.tuple #[.int .i32 ((rn src i).1 : Int), .int .i64 ((rn src i).2 : Int)]) ∧ Below w.heap.size w w' := by
  have hs : (⟨(src.drop i).toArray⟩ : ByteArray).size = src.length - i := by simp [ByteArray.size]
  have hcall := Tryf.utf8_DecodeRune ⟨(src.drop i).toArray⟩ b (o + i) cap w hT (fun j hj => by
    rw [hs] at hj
    have hg : (⟨(src.drop i).toArray⟩ : ByteArray).get! j = src[i + j]'(by omega) := by
      show (src.drop i).toArray.getD j default = _
      simp [Array.getD, hj]
    rw [hg, Nat.add_assoc]
    exact hc (i + j) (by omega))
  rw [decode_bridge src i hi, hs] at hcall
  exact hcall

def DecPost (F : Fix) (src : List UInt8) (s : St) (w : World) (r2 r3 : Value) (wx : World) : Prop := r2 = .int .i32 ((rn src s.rd).1 : Int) ∧ r3 = .int .i64 ((rn src s.rd).2 : Int) ∧ SC F src (sNl src s.rd s) wx ∧ Below F.B w wx
def RdPost (F : Fix) (src : List UInt8) (s : St) (w wx : World) : Prop := SC F src (sNl src s.rd s) wx ∧ Below F.B w wx

/-- next, where a byte is left: the part ahead of the byte is one cut, what follows is asked of a world in which the new line is recorded. -/
theorem nx_read (src : List UInt8) (s : St) (hr : s.rd < src.length) : nx src s = { sNl src s.rd s with rd := s.rd + (rn src s.rd).2, ch := ((rn src s.rd).1 : Int), ec := s.ec + (if badc src s.rd then 1 else 0) } := by
  unfold nx
  rw [if_pos hr]
  rfl

set_option maxHeartbeats 4000000 in
theorem next_read (F : Fix) (src : List UInt8) (s : St) (w : World) (h : SC F src s w) (hr : s.rd < src.length) (hec : s.ec ≤ 4611686018427387904) :
    Calls Tryf.prog 37 #[.pointer (some ⟨F.gS, 0, none⟩)] w (NextPost F src (nx src s) w) := by
  have c0 : w.cell? ⟨F.gS, 0, none⟩ = some (.pointer (some ⟨F.gF, 0, none⟩)) := by rw [h.blkS.cell]; rfl
  have c1 : w.cell? ⟨F.gS, 1, none⟩ = some (.slice F.oA src.length F.cap) := by rw [h.blkS.cell]; rfl
  have c2 : w.cell? ⟨F.gS, 2, none⟩ = some (.int .i32 s.ch) := by rw [h.blkS.cell]; rfl
  have c3 : w.cell? ⟨F.gS, 3, none⟩ = some (.int .i64 s.off) := by rw [h.blkS.cell]; rfl
  have c4 : w.cell? ⟨F.gS, 4, none⟩ = some (.int .i64 s.rd) := by rw [h.blkS.cell]; rfl
  have c5 : w.cell? ⟨F.gS, 5, none⟩ = some (.int .i64 s.lo) := by rw [h.blkS.cell]; rfl
  have f2 := h.blkS.free 2
  have f3 := h.blkS.free 3
  have f5 := h.blkS.free 5
  have hlen := h.len
  have hrd := h.rd
  have H := Lib.hid h
  clear h
  have tr : decide ((s.rd : Int) < (src.length : Int)) = true := by simp; omega
  go_enter Tryf.func37, Tryf.ntmps37
  go_wp2_with fail
  go_quiet (fail)
  go_upto_if 25 with fail
  have H1 := Lib.hid ((H.out.drewN nq).setOff s.rd hrd)
  have B1 := Lib.hid (below_drewN0 (Below.refl F.B w) nq |>.trans ((H.out.drewN nq).put_below 3 (.int .i64 (s.rd : Int))))
  go_cut [] (fun wx => RdPost F src s w wx)
  case first =>
    by_cases hch : s.ch = 10
    · have tc : (s.ch == 10) = true := by simpa using hch
      have HC := Lib.hid hch
      clear hch
      go_wp2_with fail
      have hs2 := H1.out.setLo s.rd hrd
      have hb2 := B1.out.trans (H1.out.put_below 5 (.int .i64 (s.rd : Int)))
      generalize (((w.drewN nq).setCell ⟨F.gS, 3, none⟩ (.int .i64 (s.rd : Int))).setCell ⟨F.gS, 5, none⟩ (.int .i64 (s.rd : Int))) = w2 at hs2 hb2
      have d0 : w2.cell? ⟨F.gS, 0, none⟩ = some (.pointer (some ⟨F.gF, 0, none⟩)) := by rw [hs2.blkS.cell]; rfl
      have d3 : w2.cell? ⟨F.gS, 3, none⟩ = some (.int .i64 s.rd) := by rw [hs2.blkS.cell]; rfl
      have H2 := Lib.hid hs2
      have B2 := Lib.hid hb2
      clear hs2 hb2 c0 c1 c2 c3 c4 c5 f2 f3 f5 H1 B1
      go_still_tail 8, (by kernel_rfl)
      change wpList _ _ _ _ _ w2.drew
      have hs3 := H2.out.drew
      have hb3 := B2.out.drew
      generalize w2.drew = w3 at hs3 hb3 ⊢
      obtain ⟨lv, hf, hown⟩ := hs3.file
      have hBw : F.B ≤ w3.heap.size := by have := hs3.hS; have := hs3.blkS.lt; omega
      have HC2 := Lib.hid (addLine_any F.B F.gF F.fx src.length s.lines lv s.rd w3 hf hown hs3.lines hs3.len hrd hBw)
      have HF := Lib.hid hf
      have HO := Lib.hid hown
      have H3 := Lib.hid hs3
      have B3 := Lib.hid hb3
      clear hf hown hs3 hb3 H2 B2 d0 d3
      go_wp2_with (go_at_call 55; refine HC2.out.mono ?_; rintro e w4 ⟨rfl, hpost⟩; have HP := Lib.hid hpost; clear hpost)
      go_meet
      obtain ⟨lv', hf', hown', honly⟩ := HP.out
      have ha := H3.out.added HF.out HO.out honly (addLine_ok H3.out.lines) ⟨lv', hf', hown'⟩
      have e : sNl src s.rd s = { s with off := s.rd, lo := s.rd, lines := addLine src.length s.rd s.lines } := by
        unfold sNl nl
        simp only [HC.out, if_true]
      unfold RdPost
      rw [e]
      exact ⟨ha.1, B3.out.trans ha.2⟩
    · have tc : (s.ch == 10) = false := by simpa using hch
      have HC := Lib.hid hch
      clear hch
      go_wp2_with fail
      go_meet
      have e : sNl src s.rd s = { s with off := s.rd } := by
        unfold sNl nl
        simp only [HC.out, if_false]
      unfold RdPost
      rw [e]
      exact ⟨H1.out, B1.out⟩
  case rest =>
    obtain ⟨hs, hb⟩ := hcut
    clear c0 c1 c2 c3 c4 c5 f2 f3 f5 H1 B1 H
    obtain ⟨b, o, hoA, hbB, hcells⟩ : ∃ b o, F.oA = some ⟨b, o, none⟩ ∧ b < F.B ∧ ∀ i (h : i < src.length), wc.cell? ⟨b, o + i, none⟩ = some (.int .u8 (src[i].toNat : Int)) := by
      rcases hs.srcAt with h0 | h0
      · rw [h0] at hr
        simp at hr
      · exact h0
    have d1 : wc.cell? ⟨F.gS, 1, none⟩ = some (.slice (some ⟨b, o, none⟩) src.length F.cap) := by rw [hs.blkS.cell, ← hoA]; rfl
    have d2 : wc.cell? ⟨F.gS, 2, none⟩ = some (.int .i32 s.ch) := by rw [hs.blkS.cell]; rfl
    have d3 : wc.cell? ⟨F.gS, 3, none⟩ = some (.int .i64 s.rd) := by rw [hs.blkS.cell]; rfl
    have d4 : wc.cell? ⟨F.gS, 4, none⟩ = some (.int .i64 s.rd) := by rw [hs.blkS.cell]; rfl
    have dc : wc.cell? ⟨b, o + s.rd, none⟩ = some (.int .u8 (src[s.rd].toNat : Int)) := hcells s.rd hr
    have e2 := hs.blkS.free 2
    have e4 := hs.blkS.free 4
    have hu := UInt8.toNat_lt src[s.rd]
    have hbt : bt src s.rd = src[s.rd].toNat := by simp [bt, List.getD, hr]
    have hcap := hs.cap
    generalize hx : src[s.rd].toNat = x at dc hu hbt
    have HX := Lib.hid hx
    have H2 := Lib.hid hs
    have B2 := Lib.hid hb
    have HA := Lib.hid hoA
    have HL := Lib.hid hcells
    have HT := Lib.hid hbt
    clear hs hb hoA hcells hx hbt
    have hx0 : (0 : Int) ≤ (x : Int) := by omega
    have hx1 : (x : Int) ≤ 255 := by omega
    go_wp2_with fail
    go_quiet (fail)
    have hs5 := H2.out.drewN nq
    have hb5 := below_drewN0 B2.out nq
    have hl5 : ∀ i (h : i < src.length), (wc.drewN nq).cell? ⟨b, o + i, none⟩ = some (.int .u8 (src[i].toNat : Int)) := HL.out
    clear d1 d2 d3 d4 dc e2 e4 H2 B2 HL
    generalize wc.drewN nq = w5 at hs5 hb5 hl5 ⊢
    have d1 : w5.cell? ⟨F.gS, 1, none⟩ = some (.slice (some ⟨b, o, none⟩) src.length F.cap) := by rw [hs5.blkS.cell, ← HA.out]; rfl
    have d2 : w5.cell? ⟨F.gS, 2, none⟩ = some (.int .i32 s.ch) := by rw [hs5.blkS.cell]; rfl
    have d3 : w5.cell? ⟨F.gS, 3, none⟩ = some (.int .i64 s.rd) := by rw [hs5.blkS.cell]; rfl
    have d4 : w5.cell? ⟨F.gS, 4, none⟩ = some (.int .i64 s.rd) := by rw [hs5.blkS.cell]; rfl
    have e2 := hs5.blkS.free 2
    have e4 := hs5.blkS.free 4
    have H5 := Lib.hid hs5
    have B5 := Lib.hid hb5
    have L5 := Lib.hid hl5
    clear hs5 hb5 hl5
    by_cases hz : x = 0
    · have t0 : ((x : Int) == 0) = true := by simpa using hz
      have HZ := Lib.hid hz
      clear hz
      go_wp2_with fail
      refine (error_any F.gS _ s.ec _ _ _ H5.out.blkS rfl rfl hec).mono ?_
      rintro e w' ⟨rfl, rfl⟩
      go_wp2
      go_end0
      have er : rn src s.rd = (x, 1) := by rw [← HT.out]; exact (rn_facts src s.rd hr).2.2.2.2.2 (by rw [HT.out, HZ.out]; omega)
      have eb : badc src s.rd = true := by simp [badc, er, HZ.out]
      refine ⟨rfl, ?_, ?_⟩
      · rw [nx_read src s hr, er, eb]
        exact ((H5.out.setEc (s.ec + 1)).setRd (s.rd + 1) hr).setCh x (by omega)
      · exact B5.out.trans ((H5.out.put_below 8 _).trans (((H5.out.setEc (s.ec + 1)).put_below 4 _).trans (((H5.out.setEc (s.ec + 1)).setRd (s.rd + 1) hr).put_below 2 _)))
    have t0 : ((x : Int) == 0) = false := by simpa using hz
    have HZ := Lib.hid hz
    clear hz
    by_cases ha : x < 128
    · have t1 : ¬ (128 : Int) ≤ (x : Int) := by omega
      go_wp2
      go_end0
      have er : rn src s.rd = (x, 1) := by rw [← HT.out]; exact (rn_facts src s.rd hr).2.2.2.2.2 (by rw [HT.out]; exact ha)
      have eb : badc src s.rd = false := by
        have := HZ.out
        simp [badc, er]
        omega
      refine ⟨rfl, ?_, ?_⟩
      · rw [nx_read src s hr, er, eb]
        exact (H5.out.setRd (s.rd + 1) hr).setCh x (by omega)
      · exact B5.out.trans ((H5.out.put_below 4 _).trans ((H5.out.setRd (s.rd + 1) hr).put_below 2 _))
    have t1 : (128 : Int) ≤ (x : Int) := by omega
    have hncap : ¬ F.cap = s.rd := by omega
    go_upto_region 9 with fail
    go_cut [2, 3] (fun r2 r3 wx => DecPost F src s w r2 r3 wx)
    case first =>
      have H5t := H5.out.tabs
      have HTT := Lib.hid H5t
      have hltS := H5.out.blkS.lt
      clear H5t
      go_region_held3 (fun w' => w'.cell? ⟨F.gS, 1, none⟩ = some (.slice (some ⟨b, o, none⟩) src.length F.cap) ∧ w'.cell? ⟨F.gS, 4, none⟩ = some (.int .i64 s.rd)) (first | exact ⟨by assumption, by assumption⟩ | go_keep)
        ((go_at_call 56; refine (decode_src src s.rd hr b o _ _ (by exact HTT.out) (by exact L5.out)).mono ?_; rintro e w7 ⟨rfl, hb7⟩; have g1 : w7.cell? ⟨F.gS, 1, none⟩ = some (.slice (some ⟨b, o, none⟩) src.length F.cap) := (hb7.cell (p := ⟨F.gS, 1, none⟩) hltS).trans d1; have g4 : w7.cell? ⟨F.gS, 4, none⟩ = some (.int .i64 s.rd) := (hb7.cell (p := ⟨F.gS, 4, none⟩) hltS).trans d4; have HB7 := Lib.hid hb7; clear hb7))
      all_goals
        go_wp2_with fail
        go_meet
        have hB7 : Below w5.heap.size w5 w7 := (below_drew_left HB7.out)
        exact ⟨rfl, rfl, H5.out.below hB7, B5.out.trans (hB7.mono (by have := H5.out.hS; omega))⟩
    case rest =>
    obtain ⟨rfl, rfl, hs7, hb7⟩ := hcut
    have HR := Lib.hid (rn_facts src s.rd hr)
    clear d1 d2 d3 d4 e2 e4 H5 B5 L5
    have d2 : wc.cell? ⟨F.gS, 2, none⟩ = some (.int .i32 s.ch) := by rw [hs7.blkS.cell]; rfl
    have d3 : wc.cell? ⟨F.gS, 3, none⟩ = some (.int .i64 s.rd) := by rw [hs7.blkS.cell]; rfl
    have d4 : wc.cell? ⟨F.gS, 4, none⟩ = some (.int .i64 s.rd) := by rw [hs7.blkS.cell]; rfl
    have e2 := hs7.blkS.free 2
    have e4 := hs7.blkS.free 4
    obtain ⟨k1, k4, kn, r1, r128, _⟩ := HR.out
    have r128' := r128 (by rw [HT.out]; omega)
    have H7 := Lib.hid hs7
    have B7 := Lib.hid hb7
    clear hs7 hb7 r128
    have hbad : badc src s.rd = decide (((rn src s.rd).1 = 65533 ∧ (rn src s.rd).2 = 1) ∨ ((rn src s.rd).1 = 65279 ∧ 0 < s.rd)) := by
      unfold badc
      have : ¬ (rn src s.rd).1 = 0 := by omega
      simp [this]
    have hnx := nx_read src s hr
    generalize hgr : (rn src s.rd).1 = r at *
    generalize hgk : (rn src s.rd).2 = k at *
    have HNX := Lib.hid hnx
    have HBAD := Lib.hid hbad
    clear hnx hbad hgr hgk HR HT HX HA HZ hncap
    have q1 : (0 : Int) ≤ (r : Int) := by omega
    have q2 : (r : Int) ≤ 1114111 := by omega
    by_cases h1 : r = 65533
    · have t2 : ((r : Int) == 65533) = true := by simp; omega
      by_cases h2 : k = 1
      · have t3 : ((k : Int) == 1) = true := by simp; omega
        have H1' := Lib.hid h1
        have H2' := Lib.hid h2
        clear h1 h2
        go_wp2_with fail
        refine (error_any F.gS _ s.ec _ _ _ H7.out.blkS rfl rfl hec).mono ?_
        rintro e w' ⟨rfl, rfl⟩
        go_wp2
        go_end0
        have eb : badc src s.rd = true := by rw [HBAD.out]; simp [H1'.out, H2'.out]
        refine ⟨rfl, ?_, ?_⟩
        · rw [HNX.out, eb]
          exact ((H7.out.setEc (s.ec + 1)).setRd (s.rd + k) kn).setCh r (by omega)
        · exact B7.out.trans ((H7.out.put_below 8 _).trans (((H7.out.setEc (s.ec + 1)).put_below 4 _).trans (((H7.out.setEc (s.ec + 1)).setRd (s.rd + k) kn).put_below 2 _)))
      · have t3 : ((k : Int) == 1) = false := by simp; omega
        have t4 : ((r : Int) == 65279) = false := by simp; omega
        have H1' := Lib.hid h1
        have H2' := Lib.hid h2
        clear h1 h2
        go_wp2
        go_end0
        have eb : badc src s.rd = false := by rw [HBAD.out]; simp [H1'.out, H2'.out]
        refine ⟨rfl, ?_, ?_⟩
        · rw [HNX.out, eb]
          exact (H7.out.setRd (s.rd + k) kn).setCh r (by omega)
        · exact B7.out.trans ((H7.out.put_below 4 _).trans ((H7.out.setRd (s.rd + k) kn).put_below 2 _))
    · have t2 : ((r : Int) == 65533) = false := by simp; omega
      by_cases h2 : r = 65279
      · have t4 : ((r : Int) == 65279) = true := by simp; omega
        by_cases h3 : 0 < s.rd
        · have H1' := Lib.hid h1
          have H2' := Lib.hid h2
          clear h1 h2
          go_wp2_with fail
          refine (error_any F.gS _ s.ec _ _ _ H7.out.blkS rfl rfl hec).mono ?_
          rintro e w' ⟨rfl, rfl⟩
          go_wp2
          go_end0
          have eb : badc src s.rd = true := by rw [HBAD.out]; simp [H2'.out, h3]
          refine ⟨rfl, ?_, ?_⟩
          · rw [HNX.out, eb]
            exact ((H7.out.setEc (s.ec + 1)).setRd (s.rd + k) kn).setCh r (by omega)
          · exact B7.out.trans ((H7.out.put_below 8 _).trans (((H7.out.setEc (s.ec + 1)).put_below 4 _).trans (((H7.out.setEc (s.ec + 1)).setRd (s.rd + k) kn).put_below 2 _)))
        · have H1' := Lib.hid h1
          have H2' := Lib.hid h2
          clear h1 h2
          go_wp2
          go_end0
          have eb : badc src s.rd = false := by rw [HBAD.out]; simp [H1'.out, h3]
          refine ⟨rfl, ?_, ?_⟩
          · rw [HNX.out, eb]
            exact (H7.out.setRd (s.rd + k) kn).setCh r (by omega)
          · exact B7.out.trans ((H7.out.put_below 4 _).trans ((H7.out.setRd (s.rd + k) kn).put_below 2 _))
      · have t4 : ((r : Int) == 65279) = false := by simp; omega
        have H1' := Lib.hid h1
        have H2' := Lib.hid h2
        clear h1 h2
        go_wp2
        go_end0
        have eb : badc src s.rd = false := by rw [HBAD.out]; simp [H1'.out, H2'.out]
        refine ⟨rfl, ?_, ?_⟩
        · rw [HNX.out, eb]
          exact (H7.out.setRd (s.rd + k) kn).setCh r (by omega)
        · exact B7.out.trans ((H7.out.put_below 4 _).trans ((H7.out.setRd (s.rd + k) kn).put_below 2 _))

/-- NEXT: one step of the model. -/
theorem next_any (F : Fix) (src : List UInt8) (s : St) (w : World) (h : SC F src s w) (hec : s.ec ≤ 4611686018427387904) :
    Calls Tryf.prog 37 #[.pointer (some ⟨F.gS, 0, none⟩)] w (NextPost F src (nx src s) w) := by
  by_cases hr : s.rd < src.length
  · exact next_read F src s w h hr hec
  · exact next_eof F src s w h hr

end Go.Proofs.YtamfekpcoppbgaaFmt
