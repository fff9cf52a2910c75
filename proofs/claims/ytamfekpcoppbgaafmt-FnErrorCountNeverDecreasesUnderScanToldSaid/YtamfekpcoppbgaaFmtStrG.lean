/-
  scanString at whatever bytes. Conditions: the opening quote lies behind; few errors so far; fmt answers by the tape.
-/
import Derived.Test.YtamfekpcoppbgaaFmtWayG
import Derived.Test.YtamfekpcoppbgaaFmtEscG
import Derived.Test.YtamfekpcoppbgaaFmtIdSG
namespace Go.Proofs.YtamfekpcoppbgaaFmt
open Go.RowKit
set_option maxRecDepth 100000
set_option linter.unusedVariables false

/-- reading a string literal's body -/
inductive StrR (src : List UInt8) : St → St → Bool → Prop
  | stop {s : St} : (s.ch = 10 ∨ s.ch < 0) → StrR src s s false
  | shut {s : St} : s.ch = 34 → StrR src s (nx src s) true
  | plain {s t : St} {b : Bool} : s.ch ≠ 10 → 0 ≤ s.ch → s.ch ≠ 34 → s.ch ≠ 92 → StrR src (nx src s) t b → StrR src s t b
  | esc {s u t : St} {ok b : Bool} : s.ch = 92 → EscR src 34 (nx src s) u ok → StrR src (escEnd u ok) t b → StrR src s t b
def endErr (t : St) (b : Bool) : St := if b then t else err t
theorem endErr_off (t : St) (b : Bool) : (endErr t b).off = t.off := by unfold endErr; cases b <;> rfl
def StrPost (F : Fix) (src : List UInt8) (s : St) (w : World) (e : Ending) (w' : World) : Prop :=
  ∃ t b, StrR src s t b ∧ OnWay2 src s t ∧ e = .returned (.string ⟨(cut src (s.off - 1) t.off).toArray⟩) ∧ SC F src (endErr t b) w' ∧ Below F.B w w'

set_option maxHeartbeats 4000000 in
theorem string_any (I : Go.Stop.Interp) (F : Fix) (src : List UInt8) (s : St) (w : World) (hI : I.answers w.tape) (h : SC F src s w) (hg : Good src s) (h1 : 1 ≤ s.off) (hec : s.ec ≤ 100000000000) :
    Calls Tryf.prog 38 #[.pointer (some ⟨F.gS, 0, none⟩)] w (StrPost F src s w) := by
  have c3 : w.cell? ⟨F.gS, 3, none⟩ = some (.int .i64 (s.off : Int)) := by rw [h.blkS.cell]; rfl
  obtain ⟨p, hp⟩ : ∃ p, s.off = p + 1 := ⟨s.off - 1, by omega⟩
  have hlen := h.len
  have hso := h.off
  have hpb : p + 1 ≤ 1048576 := by omega
  have HP : Hid (∀ e w', StrPost F src s w e w' = (∃ t b, StrR src s t b ∧ OnWay2 src s t ∧ e = .returned (.string ⟨(cut src p t.off).toArray⟩) ∧ SC F src (endErr t b) w' ∧ Below F.B w w')) := Lib.hid (by
    intro e w'
    unfold StrPost
    rw [show s.off - 1 = p by omega])
  rw [hp] at c3
  have c3' : w.cell? ⟨F.gS, 3, none⟩ = some (.int .i64 ((p : Int) + 1)) := by rw [c3]; simp
  clear c3
  have H := Lib.hid h
  have HG := Lib.hid (OnWay2.refl hg)
  have HPP := Lib.hid hp
  have HI := Lib.hid hI
  clear h hg hp hI
  go_enter Tryf.func38, Tryf.ntmps38
  go_wp2_with fail
  go_loopw [] (fun wr => ∃ (t : St), OnWay2 src s t ∧ (∀ u b, StrR src t u b → StrR src s u b) ∧ SC F src t wr ∧ Below F.B w wr) (fun wr => src.length + 1 - ((match wr.cell? ⟨F.gS, 3, none⟩ with | some (.int _ z) => z | _ => 0) : Int).toNat)
  case atStart => exact ⟨s, HG.out, fun u b h => h, H.out, Below.refl _ _⟩
  case round =>
    obtain ⟨t, hway, hgo, hs, hbw⟩ := hrel
    have d2 : wr.cell? ⟨F.gS, 2, none⟩ = some (.int .i32 t.ch) := by rw [hs.blkS.cell]; rfl
    have d3 : wr.cell? ⟨F.gS, 3, none⟩ = some (.int .i64 (t.off : Int)) := by rw [hs.blkS.cell]; rfl
    have htl := hs.off
    have hpo : p + 1 ≤ t.off := by have := hway.lo; have := HPP.out; omega
    have hte : t.ec ≤ 100002097152 := by have := hway.ec; omega
    have M1 := Lib.hid d3
    have HS := Lib.hid hs
    have HBW := Lib.hid hbw
    have HWAY := Lib.hid hway
    have HGO := Lib.hid hgo
    clear hs hbw hway hgo H HG c3' d3
    by_cases hst : t.ch = 10 ∨ t.ch < 0
    · have hspl : (t.ch == 10) = true ∨ ((t.ch == 10) = false ∧ decide (t.ch < 0) = true) := by
        by_cases h10 : t.ch = 10
        · exact Or.inl (by simpa using h10)
        · exact Or.inr ⟨by simpa using h10, by have : t.ch < 0 := by omega
                                               simpa using this⟩
      have HRR := Lib.hid (HGO.out t false (StrR.stop hst))
      clear hst
      rcases hspl with q1 | ⟨q1, q2⟩
      all_goals
        go_wp2_with fail
        refine (err_any F src t _ _ _ HS.out (by omega)).mono ?_
        rintro e w2 ⟨rfl, hs2, hb2⟩
        have HU := Lib.hid hs2
        have BU := Lib.hid (HBW.out.trans hb2)
        have HWU := Lib.hid HWAY.out
        clear hs2 hb2 HS HBW d2 M1
        have hcap := HU.out.cap
        have huo := HU.out.off
        obtain ⟨b, o, eo, hbB, hcells⟩ := HU.out.srcAt.at_ (by omega)
        have d1 : w2.cell? ⟨F.gS, 1, none⟩ = some (.slice (some ⟨b, o, none⟩) src.length F.cap) := by rw [HU.out.blkS.cell, ← eo]; rfl
        have d3 : w2.cell? ⟨F.gS, 3, none⟩ = some (.int .i64 ((t).off : Int)) := by rw [HU.out.blkS.cell]; rfl
        have hto : (t).off ≤ src.length := huo
        have hsl := fun W => run_sl W b o src.length F.cap p (t).off (by omega) (by omega) (by omega)
        have hslA := fun W => run_slA W b o src.length F.cap p (t).off (by omega) (by omega) (by omega)
        have hcv := fun n => run_cut src p (t).off b o (F.cap - p) (w2.drewN n) (by omega) hto hcells
        have hcv0 := run_cut src p (t).off b o (F.cap - p) w2 (by omega) hto hcells
        clear hcells eo
        go_wp2_with fail
        go_quiet (fail)
        go_wp2
        go_ret
        rw [HP.out]
        exact ⟨t, false, HRR.out, HWU.out, rfl, HU.out.drewN _, below_drewN0 BU.out _⟩
    · have q1 : (t.ch == 10) = false := by
        have : t.ch ≠ 10 := fun hh => hst (Or.inl hh)
        simpa using this
      have q1b : decide (t.ch < 0) = false := by
        have : ¬ t.ch < 0 := fun hh => hst (Or.inr hh)
        simpa using this
      have h0 : 0 ≤ t.ch := by omega
      have h10 : t.ch ≠ 10 := fun hh => hst (Or.inl hh)
      have st := step_of HWAY.out.good h0
      have hfar := st.far
      have hltn := st.lt
      have HNW := Lib.hid (HWAY.out.next h0)
      have HSG := Lib.hid st.good
      have hse := st.ec
      clear st hst
      have HH10 := Lib.hid h10
      clear h10
      go_wp2_with fail
      refine (next_any F src t _ HS.out (by omega)).mono ?_
      rintro e w2 ⟨rfl, hs2, hb2⟩
      have H2 := Lib.hid hs2
      have B2 := Lib.hid (HBW.out.trans hb2)
      have hm2 : w2.cell? ⟨F.gS, 3, none⟩ = some (.int .i64 ((nx src t).off : Int)) := by rw [hs2.blkS.cell]; rfl
      have M2 := Lib.hid hm2
      clear hs2 hb2 hm2
      by_cases h34 : t.ch = 34
      · have q2 : (t.ch == 34) = true := by simpa using h34
        have HRR := Lib.hid (HGO.out _ true (StrR.shut h34))
        have HU := Lib.hid H2.out
        have BU := Lib.hid B2.out
        have HWU := Lib.hid HNW.out
        have hpu : p + 1 ≤ (nx src t).off := by omega
        clear h34 HS HBW d2 M1 H2 B2 M2
        have hcap := HU.out.cap
        have huo := HU.out.off
        obtain ⟨b, o, eo, hbB, hcells⟩ := HU.out.srcAt.at_ (by omega)
        have d1 : w2.cell? ⟨F.gS, 1, none⟩ = some (.slice (some ⟨b, o, none⟩) src.length F.cap) := by rw [HU.out.blkS.cell, ← eo]; rfl
        have d3 : w2.cell? ⟨F.gS, 3, none⟩ = some (.int .i64 ((nx src t).off : Int)) := by rw [HU.out.blkS.cell]; rfl
        have hto : (nx src t).off ≤ src.length := huo
        have hsl := fun W => run_sl W b o src.length F.cap p (nx src t).off (by omega) (by omega) (by omega)
        have hslA := fun W => run_slA W b o src.length F.cap p (nx src t).off (by omega) (by omega) (by omega)
        have hcv := fun n => run_cut src p (nx src t).off b o (F.cap - p) (w2.drewN n) (by omega) hto hcells
        have hcv0 := run_cut src p (nx src t).off b o (F.cap - p) w2 (by omega) hto hcells
        clear hcells eo
        go_wp2_with fail
        go_quiet (fail)
        go_wp2
        go_ret
        rw [HP.out]
        exact ⟨nx src t, true, HRR.out, HWU.out, rfl, HU.out.drewN _, below_drewN0 BU.out _⟩
      · have q2 : (t.ch == 34) = false := by simpa using h34
        by_cases h92 : t.ch = 92
        · have q3 : (t.ch == 92) = true := by simpa using h92
          have H92 := Lib.hid h92
          clear h92 h34
          go_wp2_with fail
          refine (escape_any I F src 34 (nx src t) w2 (by rw [B2.out.tape]; exact HI.out) (by decide) (by decide) H2.out HSG.out (by omega)).mono ?_
          rintro e w3 ⟨u, ok, hr, hu, rfl, hs3, hb3⟩
          have HN3 := Lib.hid (fun x b (h : StrR src (escEnd u ok) x b) => HGO.out x b (StrR.esc H92.out hr h))
          have HW3 := Lib.hid (HWAY.out.esc (ok := ok) h0 hu)
          have hlo3 : (nx src t).off ≤ (escEnd u ok).off := by rw [escEnd_off]; exact hu.lo
          have hm3 : w3.cell? ⟨F.gS, 3, none⟩ = some (.int .i64 ((escEnd u ok).off : Int)) := by rw [hs3.blkS.cell]; rfl
          have M3 := Lib.hid hm3
          have H3 := Lib.hid hs3
          have B3 := Lib.hid (B2.out.trans hb3)
          have hol := hs3.off
          clear hr hu hs3 hb3 hm3
          go_wp2_with fail
          go_roundw
          case rel => exact ⟨escEnd u ok, HW3.out, HN3.out, H3.out, B3.out⟩
          case measure =>
            rw [M3.out, M1.out]
            simp only [Int.toNat_natCast]
            omega
        · have q3 : (t.ch == 92) = false := by simpa using h92
          have HN := Lib.hid (fun u b (h : StrR src (nx src t) u b) => HGO.out u b (StrR.plain HH10.out h0 h34 h92 h))
          clear h34 h92
          go_wp2_with fail
          go_roundw
          case rel => exact ⟨nx src t, HNW.out, HN.out, H2.out, B2.out⟩
          case measure =>
            rw [M2.out, M1.out]
            simp only [Int.toNat_natCast]
            omega
end Go.Proofs.YtamfekpcoppbgaaFmt
