/-
  skipWhitespace, with the stronger frame. Conditions: as stated.
-/
import Derived.Test.YtamfekpcoppbgaaFmtNextKG
namespace Go.Proofs.YtamfekpcoppbgaaFmt
open Go.RowKit
set_option maxRecDepth 100000
set_option linter.unusedVariables false

def SkipPostK (F : Fix) (src : List UInt8) (s : St) (w : World) (e : Ending) (w' : World) : Prop :=
  ∃ t, e = .returned (.tuple #[]) ∧ SkipR src s t ∧ SkWay src s t ∧ SC F src t w' ∧ BelowK F.B w w'
set_option maxHeartbeats 4000000 in
theorem skip_anyK (F : Fix) (src : List UInt8) (s : St) (w : World) (h : SC F src s w) (hg : Good src s) (hec : s.ec ≤ 1000000000000) :
    Calls Tryf.prog 30 #[.pointer (some ⟨F.gS, 0, none⟩)] w (SkipPostK F src s w) := by
  have hlen := h.len
  have H := Lib.hid h
  have HG := Lib.hid (SkWay.refl hg)
  clear h hg
  go_enter Tryf.func30, Tryf.ntmps30
  go_wp2_with fail
  go_loopw [] (fun wr => ∃ t : St, SkWay src s t ∧ (∀ u, SkipR src t u → SkipR src s u) ∧ SC F src t wr ∧ BelowK F.B w wr) (fun wr => src.length + 1 - ((match wr.cell? ⟨F.gS, 3, none⟩ with | some (.int _ z) => z | _ => 0) : Int).toNat)
  case atStart => exact ⟨s, HG.out, fun u h => h, H.out, BelowK.refl _ _⟩
  case round =>
    obtain ⟨t, hway, hgo, hs, hbw⟩ := hrel
    have d2 : wr.cell? ⟨F.gS, 2, none⟩ = some (.int .i32 t.ch) := by rw [hs.blkS.cell]; rfl
    have d3 : wr.cell? ⟨F.gS, 3, none⟩ = some (.int .i64 (t.off : Int)) := by rw [hs.blkS.cell]; rfl
    have d6 : wr.cell? ⟨F.gS, 6, none⟩ = some (.bool t.semi) := by rw [hs.blkS.cell]; rfl
    have htl := hs.off
    have hch := hs.ch
    have hte : t.ec ≤ 1000001048576 := by have := hway.ec; omega
    have M1 := Lib.hid d3
    have HS := Lib.hid hs
    have HBW := Lib.hid hbw
    have HWAY := Lib.hid hway
    have HGO := Lib.hid hgo
    clear hs hbw hway hgo H HG d3
    rcases hdg : wsp t with _ | _
    · have HX := Lib.hid (HGO.out t (SkipR.stop hdg))
      have hx := of_decide_eq_false hdg
      have t1 : (t.ch == 32) = false := by simp; omega
      have t2 : (t.ch == 9) = false := by simp; omega
      have t3 : (t.ch == 13) = false := by simp; omega
      by_cases h10 : t.ch = 10
      · have hsm : t.semi = true := by
          rcases hh : t.semi with _ | _
          · exact absurd (Or.inr (Or.inr (Or.inl ⟨h10, hh⟩))) hx
          · rfl
        have t4 : (t.ch == 10) = true := by simpa using h10
        rw [hsm] at d6
        clear hdg hx hsm h10
        go_wp2_with fail
        go_end0
        exact ⟨t, rfl, HX.out, HWAY.out, HS.out, HBW.out⟩
      · have t4 : (t.ch == 10) = false := by simpa using h10
        clear hdg hx h10
        go_wp2_with fail
        go_end0
        exact ⟨t, rfl, HX.out, HWAY.out, HS.out, HBW.out⟩
    · have hpos := wsp_pos hdg
      have st := step_of HWAY.out.good hpos
      have hfar := st.far
      have hltn := st.lt
      have HNW := Lib.hid (HWAY.out.next hpos)
      have HN := Lib.hid (fun u (hu : SkipR src (nx src t) u) => HGO.out u (SkipR.step hdg hu))
      have hx := of_decide_eq_true hdg
      clear st hdg
      rcases hx with hx | hx | ⟨hx, hsm⟩ | hx
      · have t1 : (t.ch == 32) = true := by simpa using hx
        clear hx
        go_wp2_with fail
        refine (next_anyK F src t _ HS.out (by omega)).mono ?_
        rintro e w2 ⟨rfl, hs2, hb2⟩
        have H2 := Lib.hid hs2
        have B2 := Lib.hid (HBW.out.trans hb2)
        have hm2 : w2.cell? ⟨F.gS, 3, none⟩ = some (.int .i64 ((nx src t).off : Int)) := by rw [hs2.blkS.cell]; rfl
        have M2 := Lib.hid hm2
        clear hs2 hb2 hm2
        go_wp2_with fail
        go_roundw
        case rel => exact ⟨nx src t, HNW.out, HN.out, H2.out, B2.out⟩
        case measure =>
          rw [M2.out, M1.out]
          simp only [Int.toNat_natCast]
          omega
      · have t1 : (t.ch == 32) = false := by simp; omega
        have t2 : (t.ch == 9) = true := by simpa using hx
        clear hx
        go_wp2_with fail
        refine (next_anyK F src t _ HS.out (by omega)).mono ?_
        rintro e w2 ⟨rfl, hs2, hb2⟩
        have H2 := Lib.hid hs2
        have B2 := Lib.hid (HBW.out.trans hb2)
        have hm2 : w2.cell? ⟨F.gS, 3, none⟩ = some (.int .i64 ((nx src t).off : Int)) := by rw [hs2.blkS.cell]; rfl
        have M2 := Lib.hid hm2
        clear hs2 hb2 hm2
        go_wp2_with fail
        go_roundw
        case rel => exact ⟨nx src t, HNW.out, HN.out, H2.out, B2.out⟩
        case measure =>
          rw [M2.out, M1.out]
          simp only [Int.toNat_natCast]
          omega
      · have t1 : (t.ch == 32) = false := by simp; omega
        have t2 : (t.ch == 9) = false := by simp; omega
        have t4 : (t.ch == 10) = true := by simpa using hx
        rw [hsm] at d6
        clear hx hsm
        go_wp2_with fail
        refine (next_anyK F src t _ HS.out (by omega)).mono ?_
        rintro e w2 ⟨rfl, hs2, hb2⟩
        have H2 := Lib.hid hs2
        have B2 := Lib.hid (HBW.out.trans hb2)
        have hm2 : w2.cell? ⟨F.gS, 3, none⟩ = some (.int .i64 ((nx src t).off : Int)) := by rw [hs2.blkS.cell]; rfl
        have M2 := Lib.hid hm2
        clear hs2 hb2 hm2
        go_wp2_with fail
        go_roundw
        case rel => exact ⟨nx src t, HNW.out, HN.out, H2.out, B2.out⟩
        case measure =>
          rw [M2.out, M1.out]
          simp only [Int.toNat_natCast]
          omega
      · have t1 : (t.ch == 32) = false := by simp; omega
        have t2 : (t.ch == 9) = false := by simp; omega
        have t4 : (t.ch == 10) = false := by simp; omega
        have t3 : (t.ch == 13) = true := by simpa using hx
        clear hx
        go_wp2_with fail
        refine (next_anyK F src t _ HS.out (by omega)).mono ?_
        rintro e w2 ⟨rfl, hs2, hb2⟩
        have H2 := Lib.hid hs2
        have B2 := Lib.hid (HBW.out.trans hb2)
        have hm2 : w2.cell? ⟨F.gS, 3, none⟩ = some (.int .i64 ((nx src t).off : Int)) := by rw [hs2.blkS.cell]; rfl
        have M2 := Lib.hid hm2
        clear hs2 hb2 hm2
        go_wp2_with fail
        go_roundw
        case rel => exact ⟨nx src t, HNW.out, HN.out, H2.out, B2.out⟩
        case measure =>
          rw [M2.out, M1.out]
          simp only [Int.toNat_natCast]
          omega

end Go.Proofs.YtamfekpcoppbgaaFmt
