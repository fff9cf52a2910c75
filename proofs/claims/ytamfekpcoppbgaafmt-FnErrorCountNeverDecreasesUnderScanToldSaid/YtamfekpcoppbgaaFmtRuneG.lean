/-
  scanRune at whatever bytes. Conditions: the opening quote lies behind; few errors so far; fmt answers by the tape.
-/
import Derived.Test.YtamfekpcoppbgaaFmtStrG
namespace Go.Proofs.YtamfekpcoppbgaaFmt
open Go.RowKit
set_option maxRecDepth 100000
set_option linter.unusedVariables false

/-- reading a rune literal's body: how many characters, whether all escapes were taken -/
inductive RunR (src : List UInt8) : St → Nat → Bool → St → Bool → Nat → Bool → Prop
  | stop {s : St} {n : Nat} {v : Bool} : (s.ch = 10 ∨ s.ch < 0) → RunR src s n v s false n v
  | shut {s : St} {n : Nat} {v : Bool} : s.ch = 39 → RunR src s n v (nx src s) true n v
  | plain {s t : St} {n m : Nat} {v v' b : Bool} : s.ch ≠ 10 → 0 ≤ s.ch → s.ch ≠ 39 → s.ch ≠ 92 → RunR src (nx src s) (n + 1) v t b m v' → RunR src s n v t b m v'
  | esc {s u t : St} {n m : Nat} {v v' b ok : Bool} : s.ch = 92 → EscR src 39 (nx src s) u ok → RunR src (escEnd u ok) (n + 1) (v && ok) t b m v' → RunR src s n v t b m v'
def runErr (b : Bool) (n : Nat) (v : Bool) : Bool := v && (!b || decide (n ≠ 1))
def runEnd (t : St) (b : Bool) (n : Nat) (v : Bool) : St := if runErr b n v then err t else t
theorem runEnd_off (t : St) (b : Bool) (n : Nat) (v : Bool) : (runEnd t b n v).off = t.off := by
  unfold runEnd
  split <;> rfl
def RunPost (F : Fix) (src : List UInt8) (s : St) (w : World) (e : Ending) (w' : World) : Prop :=
  ∃ t b n v, RunR src s 0 true t b n v ∧ OnWay2 src s t ∧ e = .returned (.string ⟨(cut src (s.off - 1) t.off).toArray⟩) ∧ SC F src (runEnd t b n v) w' ∧ Below F.B w w'
set_option maxHeartbeats 8000000 in
theorem rune_any (I : Go.Stop.Interp) (F : Fix) (src : List UInt8) (s : St) (w : World) (hI : I.answers w.tape) (h : SC F src s w) (hg : Good src s) (h1 : 1 ≤ s.off) (hec : s.ec ≤ 100000000000) :
    Calls Tryf.prog 39 #[.pointer (some ⟨F.gS, 0, none⟩)] w (RunPost F src s w) := by
  have c3 : w.cell? ⟨F.gS, 3, none⟩ = some (.int .i64 (s.off : Int)) := by rw [h.blkS.cell]; rfl
  obtain ⟨p, hp⟩ : ∃ p, s.off = p + 1 := ⟨s.off - 1, by omega⟩
  have hlen := h.len
  have hso := h.off
  have hpb : p + 1 ≤ 1048576 := by omega
  have HP : Hid (∀ e w', RunPost F src s w e w' = (∃ t b n v, RunR src s 0 true t b n v ∧ OnWay2 src s t ∧ e = .returned (.string ⟨(cut src p t.off).toArray⟩) ∧ SC F src (runEnd t b n v) w' ∧ Below F.B w w')) := Lib.hid (by
    intro e w'
    unfold RunPost
    rw [show s.off - 1 = p by omega])
  rw [hp] at c3
  have c3' : w.cell? ⟨F.gS, 3, none⟩ = some (.int .i64 ((p : Int) + 1)) := by rw [c3]; simp
  clear c3
  have H := Lib.hid h
  have HG := Lib.hid (OnWay2.refl hg)
  have HPP := Lib.hid hp
  have HI := Lib.hid hI
  clear h hg hp hI
  go_enter Tryf.func39, Tryf.ntmps39
  go_wp2_with fail
  go_loopw [4, 5] (fun x y wr => ∃ (t : St) (n : Nat) (v : Bool), n ≤ t.off ∧ x = .bool v ∧ y = .int .i64 n ∧ OnWay2 src s t ∧ (∀ u b m v', RunR src t n v u b m v' → RunR src s 0 true u b m v') ∧ SC F src t wr ∧ Below F.B w wr) (fun _ _ wr => src.length + 1 - ((match wr.cell? ⟨F.gS, 3, none⟩ with | some (.int _ z) => z | _ => 0) : Int).toNat)
  case atStart => exact ⟨s, 0, true, Nat.zero_le _, rfl, rfl, HG.out, fun u b m v' h => h, H.out, Below.refl _ _⟩
  case round =>
    obtain ⟨t, n, v, hnt, rfl, rfl, hway, hgo, hs, hbw⟩ := hrel
    have d2 : wr.cell? ⟨F.gS, 2, none⟩ = some (.int .i32 t.ch) := by rw [hs.blkS.cell]; rfl
    have d3 : wr.cell? ⟨F.gS, 3, none⟩ = some (.int .i64 (t.off : Int)) := by rw [hs.blkS.cell]; rfl
    have htl := hs.off
    have hpo : p + 1 ≤ t.off := by have := hway.lo; have := HPP.out; omega
    have hte : t.ec ≤ 100002097152 := by have := hway.ec; omega
    have M1 := Lib.hid d3
    have HS := Lib.hid hs
    have HBW := Lib.hid hbw
    have HWAY := Lib.hid hway
    have HGO := Lib.hid hgo
    clear hs hbw hway hgo H HG c3' d3
    by_cases hst : t.ch = 10 ∨ t.ch < 0
    · have hspl : (t.ch == 10) = true ∨ ((t.ch == 10) = false ∧ decide (t.ch < 0) = true) := by
        by_cases h10 : t.ch = 10
        · exact Or.inl (by simpa using h10)
        · exact Or.inr ⟨by simpa using h10, by have : t.ch < 0 := by omega
                                               simpa using this⟩
      have HRR := Lib.hid (HGO.out t false n v (RunR.stop hst))
      clear hst
      cases v
      · have HU : Hid (SC F src (runEnd t false n false) wr) := HS
        rcases hspl with q1 | ⟨q1, q2⟩
        all_goals
          have hcap := HS.out.cap
          have huo := HS.out.off
          obtain ⟨b, o, eo, hbB, hcells⟩ := HS.out.srcAt.at_ (by omega)
          have d1 : wr.cell? ⟨F.gS, 1, none⟩ = some (.slice (some ⟨b, o, none⟩) src.length F.cap) := by rw [HS.out.blkS.cell, ← eo]; rfl
          have d3 : wr.cell? ⟨F.gS, 3, none⟩ = some (.int .i64 ((t).off : Int)) := by rw [HS.out.blkS.cell]; rfl
          have hto : (t).off ≤ src.length := huo
          have hsl := fun W => run_sl W b o src.length F.cap p (t).off (by omega) (by omega) (by omega)
          have hslA := fun W => run_slA W b o src.length F.cap p (t).off (by omega) (by omega) (by omega)
          have hcv := fun n => run_cut src p (t).off b o (F.cap - p) (wr.drewN n) (by omega) hto hcells
          have hcv0 := run_cut src p (t).off b o (F.cap - p) wr (by omega) hto hcells
          clear hcells eo
          go_wp2_with fail
          go_quiet (fail)
          go_wp2
          go_ret
          rw [HP.out]
          exact ⟨t, false, n, false, HRR.out, HWAY.out, rfl, HU.out.drewN _, below_drewN0 HBW.out _⟩

      · rcases hspl with q1 | ⟨q1, q2⟩
        all_goals
          go_wp2_with (go_at_call 47; refine Hid.out ?_)
          refine Lib.hid ?_
          refine (err_any F src t _ _ _ HS.out (by omega)).mono ?_
          rintro e w2 ⟨rfl, hs2, hb2⟩
          have HU : Hid (SC F src (err t) w2) := Lib.hid hs2
          have HV : Hid (SC F src (runEnd t false n true) w2) := HU
          have BU := Lib.hid (HBW.out.trans hb2)
          clear hs2 hb2 d2 M1
          have hcap := HU.out.cap
          have huo := HU.out.off
          obtain ⟨b, o, eo, hbB, hcells⟩ := HU.out.srcAt.at_ (by omega)
          have d1 : w2.cell? ⟨F.gS, 1, none⟩ = some (.slice (some ⟨b, o, none⟩) src.length F.cap) := by rw [HU.out.blkS.cell, ← eo]; rfl
          have d3 : w2.cell? ⟨F.gS, 3, none⟩ = some (.int .i64 ((t).off : Int)) := by rw [HU.out.blkS.cell]; rfl
          have hto : (t).off ≤ src.length := huo
          have hsl := fun W => run_sl W b o src.length F.cap p (t).off (by omega) (by omega) (by omega)
          have hslA := fun W => run_slA W b o src.length F.cap p (t).off (by omega) (by omega) (by omega)
          have hcv := fun n => run_cut src p (t).off b o (F.cap - p) (w2.drewN n) (by omega) hto hcells
          have hcv0 := run_cut src p (t).off b o (F.cap - p) w2 (by omega) hto hcells
          clear hcells eo
          go_wp2_with fail
          go_quiet (fail)
          go_wp2
          go_ret
          rw [HP.out]
          exact ⟨t, false, n, true, HRR.out, HWAY.out, rfl, HV.out.drewN _, below_drewN0 BU.out _⟩

    · have q1 : (t.ch == 10) = false := by
        have : t.ch ≠ 10 := fun hh => hst (Or.inl hh)
        simpa using this
      have q1b : decide (t.ch < 0) = false := by
        have : ¬ t.ch < 0 := fun hh => hst (Or.inr hh)
        simpa using this
      have h0 : 0 ≤ t.ch := by omega
      have h10 : t.ch ≠ 10 := fun hh => hst (Or.inl hh)
      have st := step_of HWAY.out.good h0
      have hfar := st.far
      have hltn := st.lt
      have HNW := Lib.hid (HWAY.out.next h0)
      have HSG := Lib.hid st.good
      have hse := st.ec
      clear st hst
      have HH10 := Lib.hid h10
      clear h10
      go_wp2_with (go_at_call 37; refine Hid.out ?_)
      refine Lib.hid ?_
      refine (next_any F src t _ HS.out (by omega)).mono ?_
      rintro e w2 ⟨rfl, hs2, hb2⟩
      have H2 := Lib.hid hs2
      have B2 := Lib.hid (HBW.out.trans hb2)
      have hm2 : w2.cell? ⟨F.gS, 3, none⟩ = some (.int .i64 ((nx src t).off : Int)) := by rw [hs2.blkS.cell]; rfl
      have M2 := Lib.hid hm2
      clear hs2 hb2 hm2
      by_cases h39 : t.ch = 39
      · have q2 : (t.ch == 39) = true := by simpa using h39
        have HRR := Lib.hid (HGO.out _ true n v (RunR.shut h39))
        have hpu : p + 1 ≤ (nx src t).off := by omega
        have hne2 : (nx src t).ec ≤ 100002097153 := by omega
        clear h39 HS HBW d2 M1 M2
        cases v
        · have HU : Hid (SC F src (runEnd (nx src t) true n false) w2) := H2
          have hcap := H2.out.cap
          have huo := H2.out.off
          obtain ⟨b, o, eo, hbB, hcells⟩ := H2.out.srcAt.at_ (by omega)
          have d1 : w2.cell? ⟨F.gS, 1, none⟩ = some (.slice (some ⟨b, o, none⟩) src.length F.cap) := by rw [H2.out.blkS.cell, ← eo]; rfl
          have d3 : w2.cell? ⟨F.gS, 3, none⟩ = some (.int .i64 ((nx src t).off : Int)) := by rw [H2.out.blkS.cell]; rfl
          have hto : (nx src t).off ≤ src.length := huo
          have hsl := fun W => run_sl W b o src.length F.cap p (nx src t).off (by omega) (by omega) (by omega)
          have hslA := fun W => run_slA W b o src.length F.cap p (nx src t).off (by omega) (by omega) (by omega)
          have hcv := fun n => run_cut src p (nx src t).off b o (F.cap - p) (w2.drewN n) (by omega) hto hcells
          have hcv0 := run_cut src p (nx src t).off b o (F.cap - p) w2 (by omega) hto hcells
          clear hcells eo
          go_wp2_with fail
          go_quiet (fail)
          go_wp2
          go_ret
          rw [HP.out]
          exact ⟨nx src t, true, n, false, HRR.out, HNW.out, rfl, HU.out.drewN _, below_drewN0 B2.out _⟩

        · by_cases hn1 : n = 1
          · subst hn1
            have HU : Hid (SC F src (runEnd (nx src t) true 1 true) w2) := H2
            have q5 : (((1 : Nat) : Int) != 1) = false := by simp
            have hcap := H2.out.cap
            have huo := H2.out.off
            obtain ⟨b, o, eo, hbB, hcells⟩ := H2.out.srcAt.at_ (by omega)
            have d1 : w2.cell? ⟨F.gS, 1, none⟩ = some (.slice (some ⟨b, o, none⟩) src.length F.cap) := by rw [H2.out.blkS.cell, ← eo]; rfl
            have d3 : w2.cell? ⟨F.gS, 3, none⟩ = some (.int .i64 ((nx src t).off : Int)) := by rw [H2.out.blkS.cell]; rfl
            have hto : (nx src t).off ≤ src.length := huo
            have hsl := fun W => run_sl W b o src.length F.cap p (nx src t).off (by omega) (by omega) (by omega)
            have hslA := fun W => run_slA W b o src.length F.cap p (nx src t).off (by omega) (by omega) (by omega)
            have hcv := fun n => run_cut src p (nx src t).off b o (F.cap - p) (w2.drewN n) (by omega) hto hcells
            have hcv0 := run_cut src p (nx src t).off b o (F.cap - p) w2 (by omega) hto hcells
            clear hcells eo
            go_wp2_with fail
            go_quiet (fail)
            go_wp2
            go_ret
            rw [HP.out]
            exact ⟨nx src t, true, 1, true, HRR.out, HNW.out, rfl, HU.out.drewN _, below_drewN0 B2.out _⟩

          · have q5 : ((n : Int) != 1) = true := by simp; omega
            have hre : runEnd (nx src t) true n true = err (nx src t) := by
              unfold runEnd runErr
              rw [decide_eq_true hn1]
              rfl
            have HRE := Lib.hid hre
            clear hre
            go_wp2_with (go_at_call 47; refine Hid.out ?_)
            refine Lib.hid ?_
            refine (err_any F src (nx src t) _ _ _ H2.out (by omega)).mono ?_
            rintro e w3 ⟨rfl, hs3, hb3⟩
            have HU : Hid (SC F src (err (nx src t)) w3) := Lib.hid hs3
            have HV : Hid (SC F src (runEnd (nx src t) true n true) w3) := Lib.hid (by rw [HRE.out]; exact hs3)
            have BU := Lib.hid (B2.out.trans hb3)
            clear hs3 hb3
            have hcap := HU.out.cap
            have huo := HU.out.off
            obtain ⟨b, o, eo, hbB, hcells⟩ := HU.out.srcAt.at_ (by omega)
            have d1 : w3.cell? ⟨F.gS, 1, none⟩ = some (.slice (some ⟨b, o, none⟩) src.length F.cap) := by rw [HU.out.blkS.cell, ← eo]; rfl
            have d3 : w3.cell? ⟨F.gS, 3, none⟩ = some (.int .i64 ((nx src t).off : Int)) := by rw [HU.out.blkS.cell]; rfl
            have hto : (nx src t).off ≤ src.length := huo
            have hsl := fun W => run_sl W b o src.length F.cap p (nx src t).off (by omega) (by omega) (by omega)
            have hslA := fun W => run_slA W b o src.length F.cap p (nx src t).off (by omega) (by omega) (by omega)
            have hcv := fun n => run_cut src p (nx src t).off b o (F.cap - p) (w3.drewN n) (by omega) hto hcells
            have hcv0 := run_cut src p (nx src t).off b o (F.cap - p) w3 (by omega) hto hcells
            clear hcells eo
            go_wp2_with fail
            go_quiet (fail)
            go_wp2
            go_ret
            rw [HP.out]
            exact ⟨nx src t, true, n, true, HRR.out, HNW.out, rfl, HV.out.drewN _, below_drewN0 BU.out _⟩

      · have q2 : (t.ch == 39) = false := by simpa using h39
        by_cases h92 : t.ch = 92
        · have q3 : (t.ch == 92) = true := by simpa using h92
          have H92 := Lib.hid h92
          clear h92 h39
          go_wp2_with (go_at_call 57; refine Hid.out ?_)
          refine Lib.hid ?_
          refine (escape_any I F src 39 (nx src t) w2 (by rw [B2.out.tape]; exact HI.out) (by decide) (by decide) H2.out HSG.out (by omega)).mono ?_
          rintro e w3 ⟨u, ok, hr, hu, rfl, hs3, hb3⟩
          have HN3 := Lib.hid (fun x b m v' (h : RunR src (escEnd u ok) (n + 1) (v && ok) x b m v') => HGO.out x b m v' (RunR.esc H92.out hr h))
          have HW3 := Lib.hid (HWAY.out.esc (ok := ok) h0 hu)
          have hlo3 : (nx src t).off ≤ (escEnd u ok).off := by rw [escEnd_off]; exact hu.lo
          have hm3 : w3.cell? ⟨F.gS, 3, none⟩ = some (.int .i64 ((escEnd u ok).off : Int)) := by rw [hs3.blkS.cell]; rfl
          have M3 := Lib.hid hm3
          have H3 := Lib.hid hs3
          have B3 := Lib.hid (B2.out.trans hb3)
          have hol := hs3.off
          clear hr hu hs3 hb3 hm3
          generalize escEnd u ok = z at HN3 HW3 hlo3 M3 H3 hol
          cases ok
          all_goals
            go_wp2_with fail
            go_roundw
            case rel => exact ⟨z, n + 1, _, by omega, rfl, by go_num, HW3.out, by simpa using HN3.out, H3.out, B3.out⟩
            case measure =>
              rw [M3.out, M1.out]
              simp only [Int.toNat_natCast]
              omega
        · have q3 : (t.ch == 92) = false := by simpa using h92
          have HN := Lib.hid (fun u b m v' (h : RunR src (nx src t) (n + 1) v u b m v') => HGO.out u b m v' (RunR.plain HH10.out h0 h39 h92 h))
          clear h39 h92
          go_wp2_with fail
          go_roundw
          case rel => exact ⟨nx src t, n + 1, v, by omega, rfl, by go_num, HNW.out, HN.out, H2.out, B2.out⟩
          case measure =>
            rw [M2.out, M1.out]
            simp only [Int.toNat_natCast]
            omega
end Go.Proofs.YtamfekpcoppbgaaFmt
