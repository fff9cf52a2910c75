/-
  scanRawString at whatever bytes. Conditions: the opening backtick lies behind; few errors so far.
-/
import Derived.Test.YtamfekpcoppbgaaFmtLitM
import Derived.Test.YtamfekpcoppbgaaFmtCommentLG
namespace Go.Proofs.YtamfekpcoppbgaaFmt
open Go.RowKit
set_option maxRecDepth 100000
set_option linter.unusedVariables false

theorem nocr1 {src : List UInt8} {p k : Nat} (hk : k ≤ src.length) (h1 : bt src p ≠ 13) (h : cr src (p + 1) k = 0) : ∀ i, i < (cut src p k).length → bt (cut src p k) i ≠ 13 := by
  intro i hi
  rw [cut_len src p k hk] at hi
  rw [bt_cut src p k i hk hi]
  rcases i with _ | i
  · exact h1
  · exact cr_zero h (p + (i + 1)) (by omega) (by omega)

set_option maxHeartbeats 4000000 in
theorem raw_any (F : Fix) (src : List UInt8) (s : St) (w : World) (h : SC F src s w) (hg : Good src s) (h1 : 1 ≤ s.off) (hb : bt src (s.off - 1) ≠ 13) (hec : s.ec ≤ 1000000000000) :
    Calls Tryf.prog 40 #[.pointer (some ⟨F.gS, 0, none⟩)] w (RawPost F src s w) := by
  have c3 : w.cell? ⟨F.gS, 3, none⟩ = some (.int .i64 (s.off : Int)) := by rw [h.blkS.cell]; rfl
  obtain ⟨p, hp⟩ : ∃ p, s.off = p + 1 := ⟨s.off - 1, by omega⟩
  have hlen := h.len
  have hso := h.off
  have hpb : p + 1 ≤ 1048576 := by omega
  have HP : Hid (∀ e w', RawPost F src s w e w' = (∃ t b, RawR src s t b ∧ OnWay src s t ∧ e = .returned (.string ⟨(filt (cut src p t.off)).toArray⟩) ∧ SC F src (rawEnd t b) w' ∧ Below F.B w w')) := Lib.hid (by
    intro e w'
    unfold RawPost
    rw [show s.off - 1 = p by omega])
  rw [show s.off - 1 = p by omega] at hb
  rw [hp] at c3
  have c3' : w.cell? ⟨F.gS, 3, none⟩ = some (.int .i64 ((p : Int) + 1)) := by rw [c3]; simp
  clear c3
  have H := Lib.hid h
  have HG := Lib.hid (OnWay.refl hg)
  have HB0 := Lib.hid hb
  have HPP := Lib.hid hp
  clear h hg hb hp
  go_enter Tryf.func40, Tryf.ntmps40
  go_wp2_with fail
  go_loopw [4] (fun v wr => ∃ (c : Bool) (t : St), v = .bool c ∧ c = decide (0 < cr src (p + 1) t.off) ∧ OnWay src s t ∧ (∀ u b, RawR src t u b → RawR src s u b) ∧ SC F src t wr ∧ Below F.B w wr) (fun _ wr => src.length + 1 - ((match wr.cell? ⟨F.gS, 3, none⟩ with | some (.int _ z) => z | _ => 0) : Int).toNat)
  case atStart => exact ⟨false, s, rfl, by rw [HPP.out, cr_start _ _ _ (Nat.le_refl _)]; rfl, HG.out, fun u b h => h, H.out, Below.refl _ _⟩
  case round =>
    obtain ⟨c, t, rfl, hc, hway, hgo, hs, hbw⟩ := hrel
    have d2 : wr.cell? ⟨F.gS, 2, none⟩ = some (.int .i32 t.ch) := by rw [hs.blkS.cell]; rfl
    have d3 : wr.cell? ⟨F.gS, 3, none⟩ = some (.int .i64 (t.off : Int)) := by rw [hs.blkS.cell]; rfl
    have htl := hs.off
    have hpo : p + 1 ≤ t.off := by have := hway.lo; have := HPP.out; omega
    have hte : t.ec ≤ 1000001048576 := by have := hway.ec; omega
    have M1 := Lib.hid d3
    have HS := Lib.hid hs
    have HBW := Lib.hid hbw
    have HWAY := Lib.hid hway
    have HGO := Lib.hid hgo
    have HCR := Lib.hid hc
    clear hs hbw hway hgo hc H HG c3' d3
    by_cases hch : t.ch < 0
    · have t1 : decide (t.ch < 0) = true := by simpa using hch
      have HRR := Lib.hid (HGO.out t false (RawR.eof hch))
      go_wp2_with fail
      refine (err_any F src t _ _ _ HS.out (by omega)).mono ?_
      rintro e w2 ⟨rfl, hs2, hb2⟩
      have HU := Lib.hid hs2
      have BU := Lib.hid (HBW.out.trans hb2)
      have HCU : Hid (c = decide (0 < cr src (p + 1) (err t).off)) := Lib.hid HCR.out
      have HWU := Lib.hid HWAY.out
      have hpu : p + 1 ≤ (err t).off := hpo
      clear hs2 hb2 HS HBW HCR d2 M1
      have hcap := HU.out.cap
      have huo := HU.out.off
      obtain ⟨b, o, eo, hbB, hcells⟩ := HU.out.srcAt.at_ (by omega)
      have d1 : w2.cell? ⟨F.gS, 1, none⟩ = some (.slice (some ⟨b, o, none⟩) src.length F.cap) := by rw [HU.out.blkS.cell, ← eo]; rfl
      have d3 : w2.cell? ⟨F.gS, 3, none⟩ = some (.int .i64 ((err t).off : Int)) := by rw [HU.out.blkS.cell]; rfl
      have hsl := fun W => run_sl W b o src.length F.cap p (err t).off (by omega) (by omega) (by omega)
      have hslA := fun W => run_slA W b o src.length F.cap p (err t).off (by omega) (by omega) (by omega)
      have HCE := Lib.hid hcells
      clear hcells eo
      go_wp2_with fail
      go_quiet (fail)
      have hs5 := HU.out.drewN nq
      have hb5 := below_drewN0 BU.out nq
      have hc5 : ∀ i (h : i < src.length), (w2.drewN nq).cell? ⟨b, o + i, none⟩ = some (.int .u8 (src[i].toNat : Int)) := HCE.out
      clear HU BU HCE d1 d3 hsl hslA
      generalize w2.drewN nq = w5 at hs5 hb5 hc5 ⊢
      have hbl5 : b < w5.heap.size := by have := hs5.hS; have := hs5.blkS.lt; omega
      have H5 := Lib.hid hs5
      have B5 := Lib.hid hb5
      have HC5 := Lib.hid hc5
      clear hs5 hb5 hc5
      cases c
      · have hid := filt_id (nocr1 (src := src) (p := p) (k := (err t).off) huo HB0.out (by have := HCU.out; have h2 := of_decide_eq_false this.symm; omega))
        have hcv := run_txt (cut src p (err t).off) b (o + p) (F.cap - p) w5 (cut_cells huo HC5.out)
        rw [cut_len src p _ huo] at hcv
        have HID : Hid (filt (cut src p (t).off) = cut src p (t).off) := Lib.hid hid
        clear hid
        go_wp2_with fail
        go_ret
        rw [HP.out]
        exact ⟨_, false, HRR.out, HWU.out, by rw [HID.out]; rfl, H5.out, B5.out⟩
      · have hst := strip_any b (o + p) (F.cap - p) (cut src p (err t).off) false w5 hbl5 (cut_cells huo HC5.out) (by rw [cut_len src p _ huo]; omega)
        rw [cut_len src p _ huo] at hst
        have HST := Lib.hid hst
        clear hst
        go_wp2_with fail
        refine HST.out.mono ?_
        rintro e w6 ⟨g6, cap6, rfl, _, hg6, hc6, hb6⟩
        have hcv := run_txt _ g6 0 cap6 w6 hc6
        have hs6 := H5.out.below hb6
        have H6 := Lib.hid hs6
        have B6 := Lib.hid (B5.out.trans (hb6.mono (by have := H5.out.hS; have := H5.out.blkS.lt; omega)))
        have HSF := Lib.hid (strip_filt (cut src p (t).off))
        clear hs6 hb6 hc6 HST
        go_wp2_with fail
        go_ret
        rw [HP.out]
        exact ⟨_, false, HRR.out, HWU.out, by rw [← HSF.out]; rfl, H6.out, B6.out⟩
    · have t1 : decide (t.ch < 0) = false := by simpa using hch
      have st := step_of HWAY.out.good (by omega)
      have hfar := st.far
      have hltn := st.lt
      have hnw := HWAY.out.next (by omega)
      have HNW := Lib.hid hnw
      have HST := Lib.hid st
      clear st hnw
      go_wp2_with fail
      refine (next_any F src t _ HS.out (by omega)).mono ?_
      rintro e w2 ⟨rfl, hs2, hb2⟩
      have H2 := Lib.hid hs2
      have B2 := Lib.hid (HBW.out.trans hb2)
      have hm2 : w2.cell? ⟨F.gS, 3, none⟩ = some (.int .i64 ((nx src t).off : Int)) := by rw [hs2.blkS.cell]; rfl
      have M2 := Lib.hid hm2
      clear hs2 hb2 hm2
      by_cases h96 : t.ch = 96
      · have t2 : (t.ch == 96) = true := by simpa using h96
        have HRR := Lib.hid (HGO.out _ true (RawR.shut h96))
        have h96b := ((HWAY.out.good.ascii 96 (by decide)).1 h96).2
        have hcr := cr_step (a := p + 1) HST.out (by omega)
        rw [if_neg (by omega), Nat.add_zero] at hcr
        have HU := Lib.hid H2.out
        have BU := Lib.hid B2.out
        have HCU : Hid (c = decide (0 < cr src (p + 1) (nx src t).off)) := Lib.hid (by rw [hcr]; exact HCR.out)
        have HWU := Lib.hid HNW.out
        have hpu : p + 1 ≤ (nx src t).off := by omega
        clear h96 h96b hcr HS HBW HCR d2 M1 H2 B2 M2 HST
        have hcap := HU.out.cap
        have huo := HU.out.off
        obtain ⟨b, o, eo, hbB, hcells⟩ := HU.out.srcAt.at_ (by omega)
        have d1 : w2.cell? ⟨F.gS, 1, none⟩ = some (.slice (some ⟨b, o, none⟩) src.length F.cap) := by rw [HU.out.blkS.cell, ← eo]; rfl
        have d3 : w2.cell? ⟨F.gS, 3, none⟩ = some (.int .i64 ((nx src t).off : Int)) := by rw [HU.out.blkS.cell]; rfl
        have hsl := fun W => run_sl W b o src.length F.cap p (nx src t).off (by omega) (by omega) (by omega)
        have hslA := fun W => run_slA W b o src.length F.cap p (nx src t).off (by omega) (by omega) (by omega)
        have HCE := Lib.hid hcells
        clear hcells eo
        go_wp2_with fail
        go_quiet (fail)
        have hs5 := HU.out.drewN nq
        have hb5 := below_drewN0 BU.out nq
        have hc5 : ∀ i (h : i < src.length), (w2.drewN nq).cell? ⟨b, o + i, none⟩ = some (.int .u8 (src[i].toNat : Int)) := HCE.out
        clear HU BU HCE d1 d3 hsl hslA
        generalize w2.drewN nq = w5 at hs5 hb5 hc5 ⊢
        have hbl5 : b < w5.heap.size := by have := hs5.hS; have := hs5.blkS.lt; omega
        have H5 := Lib.hid hs5
        have B5 := Lib.hid hb5
        have HC5 := Lib.hid hc5
        clear hs5 hb5 hc5
        cases c
        · have hid := filt_id (nocr1 (src := src) (p := p) (k := (nx src t).off) huo HB0.out (by have := HCU.out; have h2 := of_decide_eq_false this.symm; omega))
          have hcv := run_txt (cut src p (nx src t).off) b (o + p) (F.cap - p) w5 (cut_cells huo HC5.out)
          rw [cut_len src p _ huo] at hcv
          have HID : Hid (filt (cut src p (nx src t).off) = cut src p (nx src t).off) := Lib.hid hid
          clear hid
          go_wp2_with fail
          go_ret
          rw [HP.out]
          exact ⟨_, true, HRR.out, HWU.out, by rw [HID.out]; rfl, H5.out, B5.out⟩
        · have hst := strip_any b (o + p) (F.cap - p) (cut src p (nx src t).off) false w5 hbl5 (cut_cells huo HC5.out) (by rw [cut_len src p _ huo]; omega)
          rw [cut_len src p _ huo] at hst
          have HST := Lib.hid hst
          clear hst
          go_wp2_with fail
          refine HST.out.mono ?_
          rintro e w6 ⟨g6, cap6, rfl, _, hg6, hc6, hb6⟩
          have hcv := run_txt _ g6 0 cap6 w6 hc6
          have hs6 := H5.out.below hb6
          have H6 := Lib.hid hs6
          have B6 := Lib.hid (B5.out.trans (hb6.mono (by have := H5.out.hS; have := H5.out.blkS.lt; omega)))
          have HSF := Lib.hid (strip_filt (cut src p (nx src t).off))
          clear hs6 hb6 hc6 HST
          go_wp2_with fail
          go_ret
          rw [HP.out]
          exact ⟨_, true, HRR.out, HWU.out, by rw [← HSF.out]; rfl, H6.out, B6.out⟩
      · have t2 : (t.ch == 96) = false := by simpa using h96
        have HN := Lib.hid (fun u b (h : RawR src (nx src t) u b) => HGO.out u b (RawR.step (by omega) h96 h))
        have hcr := cr_step (a := p + 1) HST.out (by omega)
        clear h96
        by_cases h13 : t.ch = 13
        · have t3 : (t.ch == 13) = true := by simpa using h13
          have h13b := ((HWAY.out.good.ascii 13 (by decide)).1 h13).2
          rw [if_pos h13b] at hcr
          have HC2 : Hid (true = decide (0 < cr src (p + 1) (nx src t).off)) := Lib.hid (by rw [hcr]; simp)
          clear h13 h13b hcr
          go_wp2_with fail
          go_roundw
          case rel => exact ⟨true, nx src t, rfl, HC2.out, HNW.out, HN.out, H2.out, B2.out⟩
          case measure =>
            rw [M2.out, M1.out]
            simp only [Int.toNat_natCast]
            omega
        · have t3 : (t.ch == 13) = false := by simpa using h13
          have h13b : ¬ bt src t.off = 13 := fun hh => h13 ((HWAY.out.good.ascii 13 (by decide)).2 ⟨hltn, hh⟩)
          rw [if_neg h13b] at hcr
          have HC2 : Hid (c = decide (0 < cr src (p + 1) (nx src t).off)) := Lib.hid (by rw [hcr, Nat.add_zero]; exact HCR.out)
          clear h13 h13b hcr
          go_wp2_with fail
          go_roundw
          case rel => exact ⟨c, nx src t, rfl, HC2.out, HNW.out, HN.out, H2.out, B2.out⟩
          case measure =>
            rw [M2.out, M1.out]
            simp only [Int.toNat_natCast]
            omega
end Go.Proofs.YtamfekpcoppbgaaFmt
