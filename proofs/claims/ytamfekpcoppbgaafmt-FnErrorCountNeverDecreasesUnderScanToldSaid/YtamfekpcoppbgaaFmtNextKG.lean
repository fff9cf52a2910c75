/-
  next, with a stronger frame: cells that hold a pointer to a scanner are kept. Conditions: as stated.
-/
import Derived.Test.YtamfekpcoppbgaaFmtSkA
import Derived.Test.YtamfekpcoppbgaaFmtCommentBG
namespace Go.Proofs.YtamfekpcoppbgaaFmt
open Go.RowKit
set_option maxRecDepth 100000
set_option linter.unusedVariables false

structure BelowK (B : Nat) (w w' : World) : Prop where
  bel : Below B w w'
  keep : ∀ (k : Nat) (cs : Array Value) (fz : Nat × Nat), w.heap[k]? = some (.cells cs 25 fz) → w'.heap[k]? = w.heap[k]?
theorem BelowK.refl (B : Nat) (w : World) : BelowK B w w := ⟨Below.refl _ _, fun _ _ _ _ => rfl⟩
theorem BelowK.trans {B : Nat} {a b c : World} (h : BelowK B a b) (k : BelowK B b c) : BelowK B a c := ⟨h.bel.trans k.bel, fun i cs fz hi => (k.keep i cs fz ((h.keep i cs fz hi).trans hi)).trans (h.keep i cs fz hi)⟩
theorem BelowK.drew {B : Nat} {a w : World} (h : BelowK B a w) : BelowK B a w.drew := ⟨h.bel.drew, h.keep⟩
theorem belowK_drewN {B : Nat} {a w : World} (h : BelowK B a w) (n : Nat) : BelowK B a (w.drewN n) := ⟨below_drewN0 h.bel n, h.keep⟩
theorem some_lt {w : World} {k : Nat} {o : Obj} (h : w.heap[k]? = some o) : k < w.heap.size := by
  rcases Nat.lt_or_ge k w.heap.size with h1 | h1
  · exact h1
  · rw [Array.getElem?_eq_none h1] at h
    cases h
theorem BelowK.top {B : Nat} {w w' : World} (h : Below w.heap.size w w') (hB : B ≤ w.heap.size) : BelowK B w w' := ⟨h.mono hB, fun k cs fz hk => h.block k (some_lt hk)⟩
theorem BelowK.blk {B : Nat} {a b : World} (h : BelowK B a b) {g : Nat} {cs : Array Value} (hb : Blk a g 25 cs) : Blk b g 25 cs := (h.keep g cs _ hb).trans hb
theorem SC.put_belowK {F : Fix} {src : List UInt8} {s : St} {w : World} (h : SC F src s w) (i : Nat) (u : Value) : BelowK F.B w (w.setCell ⟨F.gS, i, none⟩ u) :=
  ⟨h.put_below i u, fun k cs fz hk => Below.heap_setCell w ⟨F.gS, i, none⟩ u k (by
    rintro rfl
    have := h.blkS.symm.trans hk
    injection this with this
    injection this with _ this
    exact absurd this (by decide))⟩
theorem only_belowK {B gF : Nat} {fx : FileFix} {n m : Nat} {lv : Value} {xs : List Value} {w w' : World} (hb : Below B w w') (hf : Blk w gF 32 (flCells fx n lv)) (ho : w.ownsRow B 3 1 lv m xs) (h : Only gF lv w w') : BelowK B w w' := by
  refine ⟨hb, fun k cs fz hk => h.block k (some_lt hk) ?_ ?_⟩
  · rintro rfl
    have := hf.symm.trans hk
    injection this with this
    injection this with _ this
    exact absurd this (by decide)
  · intro e
    rcases ho.2 with ⟨rfl, _⟩ | ⟨g, cap, cur, rfl, _, hh, _⟩
    · simp [Value.ownBlock] at e
    · have e2 : k = g := by simpa [Value.ownBlock] using e
      subst e2
      rw [hk] at hh
      injection hh with hh
      injection hh with _ hh
      exact absurd hh (by decide)
theorem SC.addedK {F : Fix} {src : List UInt8} {s : St} {w w' : World} {lv : Value} {lines : List Nat} (h : SC F src s w) (hf : Blk w F.gF 32 (flCells F.fx src.length lv)) (hown : w.ownsRow F.B 3 1 lv s.lines.length (lnCells s.lines)) (ho : Only F.gF lv w w')
    (hl : LinesOk src.length lines) (hf' : ∃ lv', Blk w' F.gF 32 (flCells F.fx src.length lv') ∧ w'.ownsRow F.B 3 1 lv' lines.length (lnCells lines)) : SC F src { s with lines := lines } w' ∧ BelowK F.B w w' :=
  have ha := h.added hf hown ho hl hf'
  ⟨ha.1, only_belowK ha.2 hf hown ho⟩
def NextPostK (F : Fix) (src : List UInt8) (s' : St) (w : World) (e : Ending) (w' : World) : Prop := e = .returned (.tuple #[]) ∧ SC F src s' w' ∧ BelowK F.B w w'
set_option maxHeartbeats 1000000 in
theorem next_eofK (F : Fix) (src : List UInt8) (s : St) (w : World) (h : SC F src s w) (hr : ¬ s.rd < src.length) :
    Calls Tryf.prog 37 #[.pointer (some ⟨F.gS, 0, none⟩)] w (NextPostK F src (nx src s) w) := by
  have c0 : w.cell? ⟨F.gS, 0, none⟩ = some (.pointer (some ⟨F.gF, 0, none⟩)) := by rw [h.blkS.cell]; rfl
  have c1 : w.cell? ⟨F.gS, 1, none⟩ = some (.slice F.oA src.length F.cap) := by rw [h.blkS.cell]; rfl
  have c2 : w.cell? ⟨F.gS, 2, none⟩ = some (.int .i32 s.ch) := by rw [h.blkS.cell]; rfl
  have c3 : w.cell? ⟨F.gS, 3, none⟩ = some (.int .i64 s.off) := by rw [h.blkS.cell]; rfl
  have c4 : w.cell? ⟨F.gS, 4, none⟩ = some (.int .i64 s.rd) := by rw [h.blkS.cell]; rfl
  have c5 : w.cell? ⟨F.gS, 5, none⟩ = some (.int .i64 s.lo) := by rw [h.blkS.cell]; rfl
  have f2 := h.blkS.free 2
  have f3 := h.blkS.free 3
  have f5 := h.blkS.free 5
  have hlen := h.len
  have hrd := h.rd
  have H := Lib.hid h
  clear h
  have tr : decide ((s.rd : Int) < (src.length : Int)) = false := by simp; omega
  go_enter Tryf.func37, Tryf.ntmps37
  go_wp2_with fail
  go_quiet (fail)
  go_upto_if 129 with fail
  have H1 := Lib.hid ((H.out.drewN nq).setOff src.length (Nat.le_refl _))
  have B1 := Lib.hid (belowK_drewN (BelowK.refl F.B w) nq |>.trans ((H.out.drewN nq).put_belowK 3 (.int .i64 (src.length : Int))))
  go_cut [] (fun wx => SC F src (sNl src src.length s) wx ∧ BelowK F.B w wx)
  case first =>
    by_cases hch : s.ch = 10
    · have tc : (s.ch == 10) = true := by simpa using hch
      have HC := Lib.hid hch
      clear hch
      go_wp2_with fail
      have hs2 := H1.out.setLo src.length (Nat.le_refl _)
      have hb2 := B1.out.trans (H1.out.put_belowK 5 (.int .i64 (src.length : Int)))
      generalize (((w.drewN nq).setCell ⟨F.gS, 3, none⟩ (.int .i64 (src.length : Int))).setCell ⟨F.gS, 5, none⟩ (.int .i64 (src.length : Int))) = w2 at hs2 hb2
      have d0 : w2.cell? ⟨F.gS, 0, none⟩ = some (.pointer (some ⟨F.gF, 0, none⟩)) := by rw [hs2.blkS.cell]; rfl
      have d3 : w2.cell? ⟨F.gS, 3, none⟩ = some (.int .i64 src.length) := by rw [hs2.blkS.cell]; rfl
      have H2 := Lib.hid hs2
      have B2 := Lib.hid hb2
      clear hs2 hb2 c0 c1 c2 c3 c4 c5 f2 f3 f5 H1 B1
      go_still_tail 8, (by kernel_rfl)
      change wpList _ _ _ _ _ w2.drew
      have hs3 := H2.out.drew
      have hb3 := B2.out.drew
      generalize w2.drew = w3 at hs3 hb3 ⊢
      obtain ⟨lv, hf, hown⟩ := hs3.file
      have hBw : F.B ≤ w3.heap.size := by have := hs3.hS; have := hs3.blkS.lt; omega
      have HC2 := Lib.hid (addLine_any F.B F.gF F.fx src.length s.lines lv src.length w3 hf hown hs3.lines hs3.len (Nat.le_refl _) hBw)
      have HF := Lib.hid hf
      have HO := Lib.hid hown
      have H3 := Lib.hid hs3
      have B3 := Lib.hid hb3
      clear hf hown hs3 hb3 H2 B2 d0 d3
      go_wp2_with (go_at_call 55; refine HC2.out.mono ?_; rintro e w4 ⟨rfl, hpost⟩; have HP := Lib.hid hpost; clear hpost)
      go_meet
      obtain ⟨lv', hf', hown', honly⟩ := HP.out
      have ha := H3.out.addedK HF.out HO.out honly (addLine_ok H3.out.lines) ⟨lv', hf', hown'⟩
      have e : sNl src src.length s = { s with off := src.length, lo := src.length, lines := addLine src.length src.length s.lines } := by
        unfold sNl nl
        simp only [HC.out, if_true]
      rw [e]
      exact ⟨ha.1, B3.out.trans ha.2⟩
    · have tc : (s.ch == 10) = false := by simpa using hch
      have HC := Lib.hid hch
      clear hch
      go_wp2_with fail
      go_meet
      have e : sNl src src.length s = { s with off := src.length } := by
        unfold sNl nl
        simp only [HC.out, if_false]
      rw [e]
      exact ⟨H1.out, B1.out⟩
  case rest =>
    obtain ⟨hs, hb⟩ := hcut
    have d2 : wc.cell? ⟨F.gS, 2, none⟩ = some (.int .i32 s.ch) := by rw [hs.blkS.cell]; rfl
    have e2 := hs.blkS.free 2
    have H2 := Lib.hid hs
    have B2 := Lib.hid hb
    clear hs hb
    go_wp2
    go_end0
    have e : nx src s = { sNl src src.length s with ch := -1 } := by
      unfold nx
      rw [if_neg hr]
      rfl
    refine ⟨rfl, ?_, ?_⟩
    · rw [e]
      exact H2.out.setCh (-1) (by omega)
    · exact B2.out.trans (H2.out.put_belowK 2 _)

def DecPostK (F : Fix) (src : List UInt8) (s : St) (w : World) (r2 r3 : Value) (wx : World) : Prop := r2 = .int .i32 ((rn src s.rd).1 : Int) ∧ r3 = .int .i64 ((rn src s.rd).2 : Int) ∧ SC F src (sNl src s.rd s) wx ∧ BelowK F.B w wx
def RdPostK (F : Fix) (src : List UInt8) (s : St) (w wx : World) : Prop := SC F src (sNl src s.rd s) wx ∧ BelowK F.B w wx

set_option maxHeartbeats 4000000 in
theorem next_readK (F : Fix) (src : List UInt8) (s : St) (w : World) (h : SC F src s w) (hr : s.rd < src.length) (hec : s.ec ≤ 4611686018427387904) :
    Calls Tryf.prog 37 #[.pointer (some ⟨F.gS, 0, none⟩)] w (NextPostK F src (nx src s) w) := by
  have c0 : w.cell? ⟨F.gS, 0, none⟩ = some (.pointer (some ⟨F.gF, 0, none⟩)) := by rw [h.blkS.cell]; rfl
  have c1 : w.cell? ⟨F.gS, 1, none⟩ = some (.slice F.oA src.length F.cap) := by rw [h.blkS.cell]; rfl
  have c2 : w.cell? ⟨F.gS, 2, none⟩ = some (.int .i32 s.ch) := by rw [h.blkS.cell]; rfl
  have c3 : w.cell? ⟨F.gS, 3, none⟩ = some (.int .i64 s.off) := by rw [h.blkS.cell]; rfl
  have c4 : w.cell? ⟨F.gS, 4, none⟩ = some (.int .i64 s.rd) := by rw [h.blkS.cell]; rfl
  have c5 : w.cell? ⟨F.gS, 5, none⟩ = some (.int .i64 s.lo) := by rw [h.blkS.cell]; rfl
  have f2 := h.blkS.free 2
  have f3 := h.blkS.free 3
  have f5 := h.blkS.free 5
  have hlen := h.len
  have hrd := h.rd
  have H := Lib.hid h
  clear h
  have tr : decide ((s.rd : Int) < (src.length : Int)) = true := by simp; omega
  go_enter Tryf.func37, Tryf.ntmps37
  go_wp2_with fail
  go_quiet (fail)
  go_upto_if 25 with fail
  have H1 := Lib.hid ((H.out.drewN nq).setOff s.rd hrd)
  have B1 := Lib.hid (belowK_drewN (BelowK.refl F.B w) nq |>.trans ((H.out.drewN nq).put_belowK 3 (.int .i64 (s.rd : Int))))
  go_cut [] (fun wx => RdPostK F src s w wx)
  case first =>
    by_cases hch : s.ch = 10
    · have tc : (s.ch == 10) = true := by simpa using hch
      have HC := Lib.hid hch
      clear hch
      go_wp2_with fail
      have hs2 := H1.out.setLo s.rd hrd
      have hb2 := B1.out.trans (H1.out.put_belowK 5 (.int .i64 (s.rd : Int)))
      generalize (((w.drewN nq).setCell ⟨F.gS, 3, none⟩ (.int .i64 (s.rd : Int))).setCell ⟨F.gS, 5, none⟩ (.int .i64 (s.rd : Int))) = w2 at hs2 hb2
      have d0 : w2.cell? ⟨F.gS, 0, none⟩ = some (.pointer (some ⟨F.gF, 0, none⟩)) := by rw [hs2.blkS.cell]; rfl
      have d3 : w2.cell? ⟨F.gS, 3, none⟩ = some (.int .i64 s.rd) := by rw [hs2.blkS.cell]; rfl
      have H2 := Lib.hid hs2
      have B2 := Lib.hid hb2
      clear hs2 hb2 c0 c1 c2 c3 c4 c5 f2 f3 f5 H1 B1
      go_still_tail 8, (by kernel_rfl)
      change wpList _ _ _ _ _ w2.drew
      have hs3 := H2.out.drew
      have hb3 := B2.out.drew
      generalize w2.drew = w3 at hs3 hb3 ⊢
      obtain ⟨lv, hf, hown⟩ := hs3.file
      have hBw : F.B ≤ w3.heap.size := by have := hs3.hS; have := hs3.blkS.lt; omega
      have HC2 := Lib.hid (addLine_any F.B F.gF F.fx src.length s.lines lv s.rd w3 hf hown hs3.lines hs3.len hrd hBw)
      have HF := Lib.hid hf
      have HO := Lib.hid hown
      have H3 := Lib.hid hs3
      have B3 := Lib.hid hb3
      clear hf hown hs3 hb3 H2 B2 d0 d3
      go_wp2_with (go_at_call 55; refine HC2.out.mono ?_; rintro e w4 ⟨rfl, hpost⟩; have HP := Lib.hid hpost; clear hpost)
      go_meet
      obtain ⟨lv', hf', hown', honly⟩ := HP.out
      have ha := H3.out.addedK HF.out HO.out honly (addLine_ok H3.out.lines) ⟨lv', hf', hown'⟩
      have e : sNl src s.rd s = { s with off := s.rd, lo := s.rd, lines := addLine src.length s.rd s.lines } := by
        unfold sNl nl
        simp only [HC.out, if_true]
      unfold RdPostK
      rw [e]
      exact ⟨ha.1, B3.out.trans ha.2⟩
    · have tc : (s.ch == 10) = false := by simpa using hch
      have HC := Lib.hid hch
      clear hch
      go_wp2_with fail
      go_meet
      have e : sNl src s.rd s = { s with off := s.rd } := by
        unfold sNl nl
        simp only [HC.out, if_false]
      unfold RdPostK
      rw [e]
      exact ⟨H1.out, B1.out⟩
  case rest =>
    obtain ⟨hs, hb⟩ := hcut
    clear c0 c1 c2 c3 c4 c5 f2 f3 f5 H1 B1 H
    obtain ⟨b, o, hoA, hbB, hcells⟩ : ∃ b o, F.oA = some ⟨b, o, none⟩ ∧ b < F.B ∧ ∀ i (h : i < src.length), wc.cell? ⟨b, o + i, none⟩ = some (.int .u8 (src[i].toNat : Int)) := by
      rcases hs.srcAt with h0 | h0
      · rw [h0] at hr
        simp at hr
      · exact h0
    have d1 : wc.cell? ⟨F.gS, 1, none⟩ = some (.slice (some ⟨b, o, none⟩) src.length F.cap) := by rw [hs.blkS.cell, ← hoA]; rfl
    have d2 : wc.cell? ⟨F.gS, 2, none⟩ = some (.int .i32 s.ch) := by rw [hs.blkS.cell]; rfl
    have d3 : wc.cell? ⟨F.gS, 3, none⟩ = some (.int .i64 s.rd) := by rw [hs.blkS.cell]; rfl
    have d4 : wc.cell? ⟨F.gS, 4, none⟩ = some (.int .i64 s.rd) := by rw [hs.blkS.cell]; rfl
    have dc : wc.cell? ⟨b, o + s.rd, none⟩ = some (.int .u8 (src[s.rd].toNat : Int)) := hcells s.rd hr
    have e2 := hs.blkS.free 2
    have e4 := hs.blkS.free 4
    have hu := UInt8.toNat_lt src[s.rd]
    have hbt : bt src s.rd = src[s.rd].toNat := by simp [bt, List.getD, hr]
    have hcap := hs.cap
    generalize hx : src[s.rd].toNat = x at dc hu hbt
    have HX := Lib.hid hx
    have H2 := Lib.hid hs
    have B2 := Lib.hid hb
    have HA := Lib.hid hoA
    have HL := Lib.hid hcells
    have HT := Lib.hid hbt
    clear hs hb hoA hcells hx hbt
    have hx0 : (0 : Int) ≤ (x : Int) := by omega
    have hx1 : (x : Int) ≤ 255 := by omega
    go_wp2_with fail
    go_quiet (fail)
    have hs5 := H2.out.drewN nq
    have hb5 := belowK_drewN B2.out nq
    have hl5 : ∀ i (h : i < src.length), (wc.drewN nq).cell? ⟨b, o + i, none⟩ = some (.int .u8 (src[i].toNat : Int)) := HL.out
    clear d1 d2 d3 d4 dc e2 e4 H2 B2 HL
    generalize wc.drewN nq = w5 at hs5 hb5 hl5 ⊢
    have d1 : w5.cell? ⟨F.gS, 1, none⟩ = some (.slice (some ⟨b, o, none⟩) src.length F.cap) := by rw [hs5.blkS.cell, ← HA.out]; rfl
    have d2 : w5.cell? ⟨F.gS, 2, none⟩ = some (.int .i32 s.ch) := by rw [hs5.blkS.cell]; rfl
    have d3 : w5.cell? ⟨F.gS, 3, none⟩ = some (.int .i64 s.rd) := by rw [hs5.blkS.cell]; rfl
    have d4 : w5.cell? ⟨F.gS, 4, none⟩ = some (.int .i64 s.rd) := by rw [hs5.blkS.cell]; rfl
    have e2 := hs5.blkS.free 2
    have e4 := hs5.blkS.free 4
    have H5 := Lib.hid hs5
    have B5 := Lib.hid hb5
    have L5 := Lib.hid hl5
    clear hs5 hb5 hl5
    by_cases hz : x = 0
    · have t0 : ((x : Int) == 0) = true := by simpa using hz
      have HZ := Lib.hid hz
      clear hz
      go_wp2_with fail
      refine (error_any F.gS _ s.ec _ _ _ H5.out.blkS rfl rfl hec).mono ?_
      rintro e w' ⟨rfl, rfl⟩
      go_wp2
      go_end0
      have er : rn src s.rd = (x, 1) := by rw [← HT.out]; exact (rn_facts src s.rd hr).2.2.2.2.2 (by rw [HT.out, HZ.out]; omega)
      have eb : badc src s.rd = true := by simp [badc, er, HZ.out]
      refine ⟨rfl, ?_, ?_⟩
      · rw [nx_read src s hr, er, eb]
        exact ((H5.out.setEc (s.ec + 1)).setRd (s.rd + 1) hr).setCh x (by omega)
      · exact B5.out.trans ((H5.out.put_belowK 8 _).trans (((H5.out.setEc (s.ec + 1)).put_belowK 4 _).trans (((H5.out.setEc (s.ec + 1)).setRd (s.rd + 1) hr).put_belowK 2 _)))
    have t0 : ((x : Int) == 0) = false := by simpa using hz
    have HZ := Lib.hid hz
    clear hz
    by_cases ha : x < 128
    · have t1 : ¬ (128 : Int) ≤ (x : Int) := by omega
      go_wp2
      go_end0
      have er : rn src s.rd = (x, 1) := by rw [← HT.out]; exact (rn_facts src s.rd hr).2.2.2.2.2 (by rw [HT.out]; exact ha)
      have eb : badc src s.rd = false := by
        have := HZ.out
        simp [badc, er]
        omega
      refine ⟨rfl, ?_, ?_⟩
      · rw [nx_read src s hr, er, eb]
        exact (H5.out.setRd (s.rd + 1) hr).setCh x (by omega)
      · exact B5.out.trans ((H5.out.put_belowK 4 _).trans ((H5.out.setRd (s.rd + 1) hr).put_belowK 2 _))
    have t1 : (128 : Int) ≤ (x : Int) := by omega
    have hncap : ¬ F.cap = s.rd := by omega
    go_upto_region 9 with fail
    go_cut [2, 3] (fun r2 r3 wx => DecPostK F src s w r2 r3 wx)
    case first =>
      have H5t := H5.out.tabs
      have HTT := Lib.hid H5t
      have hltS := H5.out.blkS.lt
      clear H5t
      go_region_held3 (fun w' => w'.cell? ⟨F.gS, 1, none⟩ = some (.slice (some ⟨b, o, none⟩) src.length F.cap) ∧ w'.cell? ⟨F.gS, 4, none⟩ = some (.int .i64 s.rd)) (first | exact ⟨by assumption, by assumption⟩ | go_keep)
        ((go_at_call 56; refine (decode_src src s.rd hr b o _ _ (by exact HTT.out) (by exact L5.out)).mono ?_; rintro e w7 ⟨rfl, hb7⟩; have g1 : w7.cell? ⟨F.gS, 1, none⟩ = some (.slice (some ⟨b, o, none⟩) src.length F.cap) := (hb7.cell (p := ⟨F.gS, 1, none⟩) hltS).trans d1; have g4 : w7.cell? ⟨F.gS, 4, none⟩ = some (.int .i64 s.rd) := (hb7.cell (p := ⟨F.gS, 4, none⟩) hltS).trans d4; have HB7 := Lib.hid hb7; clear hb7))
      all_goals
        go_wp2_with fail
        go_meet
        have hB7 : Below w5.heap.size w5 w7 := (below_drew_left HB7.out)
        exact ⟨rfl, rfl, H5.out.below hB7, B5.out.trans (BelowK.top hB7 (by have := H5.out.hS; have := H5.out.blkS.lt; omega))⟩
    case rest =>
    obtain ⟨rfl, rfl, hs7, hb7⟩ := hcut
    have HR := Lib.hid (rn_facts src s.rd hr)
    clear d1 d2 d3 d4 e2 e4 H5 B5 L5
    have d2 : wc.cell? ⟨F.gS, 2, none⟩ = some (.int .i32 s.ch) := by rw [hs7.blkS.cell]; rfl
    have d3 : wc.cell? ⟨F.gS, 3, none⟩ = some (.int .i64 s.rd) := by rw [hs7.blkS.cell]; rfl
    have d4 : wc.cell? ⟨F.gS, 4, none⟩ = some (.int .i64 s.rd) := by rw [hs7.blkS.cell]; rfl
    have e2 := hs7.blkS.free 2
    have e4 := hs7.blkS.free 4
    obtain ⟨k1, k4, kn, r1, r128, _⟩ := HR.out
    have r128' := r128 (by rw [HT.out]; omega)
    have H7 := Lib.hid hs7
    have B7 := Lib.hid hb7
    clear hs7 hb7 r128
    have hbad : badc src s.rd = decide (((rn src s.rd).1 = 65533 ∧ (rn src s.rd).2 = 1) ∨ ((rn src s.rd).1 = 65279 ∧ 0 < s.rd)) := by
      unfold badc
      have : ¬ (rn src s.rd).1 = 0 := by omega
      simp [this]
    have hnx := nx_read src s hr
    generalize hgr : (rn src s.rd).1 = r at *
    generalize hgk : (rn src s.rd).2 = k at *
    have HNX := Lib.hid hnx
    have HBAD := Lib.hid hbad
    clear hnx hbad hgr hgk HR HT HX HA HZ hncap
    have q1 : (0 : Int) ≤ (r : Int) := by omega
    have q2 : (r : Int) ≤ 1114111 := by omega
    by_cases h1 : r = 65533
    · have t2 : ((r : Int) == 65533) = true := by simp; omega
      by_cases h2 : k = 1
      · have t3 : ((k : Int) == 1) = true := by simp; omega
        have H1' := Lib.hid h1
        have H2' := Lib.hid h2
        clear h1 h2
        go_wp2_with fail
        refine (error_any F.gS _ s.ec _ _ _ H7.out.blkS rfl rfl hec).mono ?_
        rintro e w' ⟨rfl, rfl⟩
        go_wp2
        go_end0
        have eb : badc src s.rd = true := by rw [HBAD.out]; simp [H1'.out, H2'.out]
        refine ⟨rfl, ?_, ?_⟩
        · rw [HNX.out, eb]
          exact ((H7.out.setEc (s.ec + 1)).setRd (s.rd + k) kn).setCh r (by omega)
        · exact B7.out.trans ((H7.out.put_belowK 8 _).trans (((H7.out.setEc (s.ec + 1)).put_belowK 4 _).trans (((H7.out.setEc (s.ec + 1)).setRd (s.rd + k) kn).put_belowK 2 _)))
      · have t3 : ((k : Int) == 1) = false := by simp; omega
        have t4 : ((r : Int) == 65279) = false := by simp; omega
        have H1' := Lib.hid h1
        have H2' := Lib.hid h2
        clear h1 h2
        go_wp2
        go_end0
        have eb : badc src s.rd = false := by rw [HBAD.out]; simp [H1'.out, H2'.out]
        refine ⟨rfl, ?_, ?_⟩
        · rw [HNX.out, eb]
          exact (H7.out.setRd (s.rd + k) kn).setCh r (by omega)
        · exact B7.out.trans ((H7.out.put_belowK 4 _).trans ((H7.out.setRd (s.rd + k) kn).put_belowK 2 _))
    · have t2 : ((r : Int) == 65533) = false := by simp; omega
      by_cases h2 : r = 65279
      · have t4 : ((r : Int) == 65279) = true := by simp; omega
        by_cases h3 : 0 < s.rd
        · have H1' := Lib.hid h1
          have H2' := Lib.hid h2
          clear h1 h2
          go_wp2_with fail
          refine (error_any F.gS _ s.ec _ _ _ H7.out.blkS rfl rfl hec).mono ?_
          rintro e w' ⟨rfl, rfl⟩
          go_wp2
          go_end0
          have eb : badc src s.rd = true := by rw [HBAD.out]; simp [H2'.out, h3]
          refine ⟨rfl, ?_, ?_⟩
          · rw [HNX.out, eb]
            exact ((H7.out.setEc (s.ec + 1)).setRd (s.rd + k) kn).setCh r (by omega)
          · exact B7.out.trans ((H7.out.put_belowK 8 _).trans (((H7.out.setEc (s.ec + 1)).put_belowK 4 _).trans (((H7.out.setEc (s.ec + 1)).setRd (s.rd + k) kn).put_belowK 2 _)))
        · have H1' := Lib.hid h1
          have H2' := Lib.hid h2
          clear h1 h2
          go_wp2
          go_end0
          have eb : badc src s.rd = false := by rw [HBAD.out]; simp [H1'.out, h3]
          refine ⟨rfl, ?_, ?_⟩
          · rw [HNX.out, eb]
            exact (H7.out.setRd (s.rd + k) kn).setCh r (by omega)
          · exact B7.out.trans ((H7.out.put_belowK 4 _).trans ((H7.out.setRd (s.rd + k) kn).put_belowK 2 _))
      · have t4 : ((r : Int) == 65279) = false := by simp; omega
        have H1' := Lib.hid h1
        have H2' := Lib.hid h2
        clear h1 h2
        go_wp2
        go_end0
        have eb : badc src s.rd = false := by rw [HBAD.out]; simp [H1'.out, H2'.out]
        refine ⟨rfl, ?_, ?_⟩
        · rw [HNX.out, eb]
          exact (H7.out.setRd (s.rd + k) kn).setCh r (by omega)
        · exact B7.out.trans ((H7.out.put_belowK 4 _).trans ((H7.out.setRd (s.rd + k) kn).put_belowK 2 _))

/-- NEXT: one step of the model. -/
theorem next_anyK (F : Fix) (src : List UInt8) (s : St) (w : World) (h : SC F src s w) (hec : s.ec ≤ 4611686018427387904) :
    Calls Tryf.prog 37 #[.pointer (some ⟨F.gS, 0, none⟩)] w (NextPostK F src (nx src s) w) := by
  by_cases hr : s.rd < src.length
  · exact next_readK F src s w h hr hec
  · exact next_eofK F src s w h hr

end Go.Proofs.YtamfekpcoppbgaaFmt
