/-
  digitVal, and scanDigits as a relation on states. Conditions: the base is at most 16.
-/
import Derived.Test.YtamfekpcoppbgaaFmtLitM
namespace Go.Proofs.YtamfekpcoppbgaaFmt
open Go.RowKit
set_option maxRecDepth 100000
set_option linter.unusedVariables false

theorem ret_i {a b : Int} (h : a = b) : Ending.returned (.int .i64 a) = .returned (.int .i64 b) := by rw [h]
def dv (c : Int) : Int := if 48 ≤ c ∧ c ≤ 57 then c - 48 else if 97 ≤ c ∧ c ≤ 102 then c - 87 else if 65 ≤ c ∧ c ≤ 70 then c - 55 else 16
theorem dv_range (c : Int) : 0 ≤ dv c ∧ dv c ≤ 16 := by
  unfold dv
  split
  · omega
  · split
    · omega
    · split <;> omega
theorem dv_low (c : Int) (h : dv c < 16) : 48 ≤ c ∧ c ≤ 102 := by
  unfold dv at h
  split at h
  · omega
  · split at h
    · omega
    · split at h <;> omega
set_option maxHeartbeats 1000000 in
theorem digitVal_any (c : Int) (w : World) (h0 : -2147483648 ≤ c) (h1 : c ≤ 2147483647) :
    Calls Tryf.prog 64 #[.int .i32 c] w fun e w' => e = .returned (.int .i64 (dv c)) ∧ w = w' := by
  by_cases h2 : 48 ≤ c ∧ c ≤ 57
  · have e : dv c = c - 48 := by unfold dv; rw [if_pos h2]
    rw [e]
    obtain ⟨h3, h4⟩ := h2
    clear e
    go_enter Tryf.func64, Tryf.ntmps64
    go_wp2
    go_ret
    exact ⟨rfl, rfl⟩
  by_cases h3 : 97 ≤ c ∧ c ≤ 102
  · have e : dv c = c - 87 := by unfold dv; rw [if_neg h2, if_pos h3]
    rw [e]
    obtain ⟨h4, h5⟩ := h3
    have h6 : ¬ c ≤ 57 := by omega
    clear e h2
    go_enter Tryf.func64, Tryf.ntmps64
    go_wp2
    all_goals (go_ret; exact ⟨ret_i (by omega), rfl⟩)
  by_cases h4 : 65 ≤ c ∧ c ≤ 70
  · have e : dv c = c - 55 := by unfold dv; rw [if_neg h2, if_neg h3, if_pos h4]
    rw [e]
    obtain ⟨h5, h6⟩ := h4
    have h7 : ¬ c ≤ 57 := by omega
    have h8 : ¬ 97 ≤ c := by omega
    clear e h2 h3
    go_enter Tryf.func64, Tryf.ntmps64
    go_wp2
    all_goals (go_ret; exact ⟨ret_i (by omega), rfl⟩)
  have e : dv c = 16 := by unfold dv; rw [if_neg h2, if_neg h3, if_neg h4]
  rw [e]
  clear e
  have k1 : c < 48 ∨ 57 < c := by omega
  have k2 : c < 97 ∨ 102 < c := by omega
  have k3 : c < 65 ∨ 70 < c := by omega
  clear h2 h3 h4
  rcases k1 with k1 | k1 <;> rcases k2 with k2 | k2 <;> rcases k3 with k3 | k3 <;> first | (exfalso; omega) | (go_enter Tryf.func64, Tryf.ntmps64; go_wp2; all_goals (go_ret; exact ⟨rfl, rfl⟩))

/-- a digit of the base, or an underscore -/
def dg (b c : Int) : Bool := decide (c = 95 ∨ dv c < b)
inductive DigR (src : List UInt8) (b : Int) : St → St → Prop
  | stop {s : St} : dg b s.ch = false → DigR src b s s
  | step {s t : St} : dg b s.ch = true → DigR src b (nx src s) t → DigR src b s t
theorem dg_pos {b c : Int} (hb : b ≤ 16) (h : dg b c = true) : 48 ≤ c ∧ c ≤ 102 := by
  unfold dg at h
  rcases of_decide_eq_true h with h | h
  · omega
  · exact dv_low c (by omega)
def DigPost (F : Fix) (src : List UInt8) (b : Int) (s : St) (w : World) (e : Ending) (w' : World) : Prop :=
  ∃ t, e = .returned (.tuple #[]) ∧ DigR src b s t ∧ OnWay src s t ∧ SC F src t w' ∧ Below F.B w w'
set_option maxHeartbeats 2000000 in
theorem digits_any (F : Fix) (src : List UInt8) (b : Int) (s : St) (w : World) (h : SC F src s w) (hg : Good src s) (hb0 : -9223372036854775808 ≤ b) (hb : b ≤ 16) (hec : s.ec ≤ 1000000000000) :
    Calls Tryf.prog 54 #[.pointer (some ⟨F.gS, 0, none⟩), .int .i64 b] w (DigPost F src b s w) := by
  have hlen := h.len
  have H := Lib.hid h
  have HG := Lib.hid (OnWay.refl hg)
  clear h hg
  go_enter Tryf.func54, Tryf.ntmps54
  go_wp2_with fail
  go_loopw [] (fun wr => ∃ t : St, OnWay src s t ∧ (∀ u, DigR src b t u → DigR src b s u) ∧ SC F src t wr ∧ Below F.B w wr) (fun wr => src.length + 1 - ((match wr.cell? ⟨F.gS, 3, none⟩ with | some (.int _ z) => z | _ => 0) : Int).toNat)
  case atStart => exact ⟨s, HG.out, fun u h => h, H.out, Below.refl _ _⟩
  case round =>
    obtain ⟨t, hway, hgo, hs, hbw⟩ := hrel
    have d2 : wr.cell? ⟨F.gS, 2, none⟩ = some (.int .i32 t.ch) := by rw [hs.blkS.cell]; rfl
    have d3 : wr.cell? ⟨F.gS, 3, none⟩ = some (.int .i64 (t.off : Int)) := by rw [hs.blkS.cell]; rfl
    have htl := hs.off
    have hch := hs.ch
    have hte : t.ec ≤ 1000001048576 := by have := hway.ec; omega
    have hdr := dv_range t.ch
    have M1 := Lib.hid d3
    have HS := Lib.hid hs
    have HBW := Lib.hid hbw
    have HWAY := Lib.hid hway
    have HGO := Lib.hid hgo
    clear hs hbw hway hgo H HG d3
    rcases hdg : dg b t.ch with _ | _
    · have HX := Lib.hid (HGO.out t (DigR.stop hdg))
      have hx : ¬ (t.ch = 95 ∨ dv t.ch < b) := of_decide_eq_false hdg
      have t1 : (t.ch == 95) = false := by
        have : t.ch ≠ 95 := fun hh => hx (Or.inl hh)
        simpa using this
      have t2 : decide (dv t.ch < b) = false := by
        have : ¬ dv t.ch < b := fun hh => hx (Or.inr hh)
        simpa using this
      have HDV := Lib.hid (digitVal_any t.ch wr (by omega) (by omega))
      clear hdg hx
      generalize dv t.ch = dd at *
      go_wp2_with (go_at_call 64; refine HDV.out.mono ?_; rintro e w' ⟨rfl, rfl⟩)
      go_end0
      exact ⟨t, rfl, HX.out, HWAY.out, HS.out, HBW.out⟩
    · have hpos := dg_pos hb hdg
      have st := step_of HWAY.out.good (by omega)
      have hfar := st.far
      have hltn := st.lt
      have HNW := Lib.hid (HWAY.out.next (by omega))
      have HN := Lib.hid (fun u (hu : DigR src b (nx src t) u) => HGO.out u (DigR.step hdg hu))
      have hx : t.ch = 95 ∨ dv t.ch < b := of_decide_eq_true hdg
      have HDV := Lib.hid (digitVal_any t.ch wr (by omega) (by omega))
      clear st hdg
      have fin : Hid (t.ch = 95) ∨ (((t.ch == 95) = false) ∧ decide (dv t.ch < b) = true) := by
        by_cases h95 : t.ch = 95
        · exact Or.inl (Lib.hid h95)
        · exact Or.inr ⟨by simpa using h95, by rcases hx with h | h; exact absurd h h95; simpa using h⟩
      clear hx
      rcases fin with f1 | ⟨t1, t2⟩
      · have t1 : (t.ch == 95) = true := by simpa using f1.out
        clear f1
        go_wp2_with fail
        refine (next_any F src t _ HS.out (by omega)).mono ?_
        rintro e w2 ⟨rfl, hs2, hb2⟩
        have H2 := Lib.hid hs2
        have B2 := Lib.hid (HBW.out.trans hb2)
        have hm2 : w2.cell? ⟨F.gS, 3, none⟩ = some (.int .i64 ((nx src t).off : Int)) := by rw [hs2.blkS.cell]; rfl
        have M2 := Lib.hid hm2
        clear hs2 hb2 hm2
        go_wp2_with fail
        go_roundw
        case rel => exact ⟨nx src t, HNW.out, HN.out, H2.out, B2.out⟩
        case measure =>
          rw [M2.out, M1.out]
          simp only [Int.toNat_natCast]
          omega
      · generalize dv t.ch = dd at *
        go_wp2_with (go_at_call 64; refine HDV.out.mono ?_; rintro e w' ⟨rfl, rfl⟩)
        refine (next_any F src t _ HS.out (by omega)).mono ?_
        rintro e w2 ⟨rfl, hs2, hb2⟩
        have H2 := Lib.hid hs2
        have B2 := Lib.hid (HBW.out.trans hb2)
        have hm2 : w2.cell? ⟨F.gS, 3, none⟩ = some (.int .i64 ((nx src t).off : Int)) := by rw [hs2.blkS.cell]; rfl
        have M2 := Lib.hid hm2
        clear hs2 hb2 hm2
        go_wp2_with fail
        go_roundw
        case rel => exact ⟨nx src t, HNW.out, HN.out, H2.out, B2.out⟩
        case measure =>
          rw [M2.out, M1.out]
          simp only [Int.toNat_natCast]
          omega
theorem DigR.good {src : List UInt8} {b : Int} {s t : St} (hb : b ≤ 16) (h : DigR src b s t) (hg : Good src s) : Good src t ∧ s.off ≤ t.off := by
  induction h with
  | stop h => exact ⟨hg, Nat.le_refl _⟩
  | @step s t h hr ih =>
    have st := step_of hg (by have := dg_pos hb h; omega)
    have := ih st.good
    exact ⟨this.1, by have := st.far; omega⟩
theorem DigR.mono {src : List UInt8} {b1 b2 : Int} {s t1 t2 : St} (hb : b1 ≤ b2) (h2 : b2 ≤ 16) (h : DigR src b1 s t1) (k : DigR src b2 s t2) (hg : Good src s) : t1.off ≤ t2.off := by
  induction h generalizing t2 with
  | stop h => exact (k.good h2 hg).2
  | @step s t h hr ih =>
    have h' : dg b2 s.ch = true := by
      unfold dg at h ⊢
      have := of_decide_eq_true h
      exact decide_eq_true (by omega)
    have st := step_of hg (by have := dg_pos h2 h'; omega)
    cases k with
    | stop kk => rw [h'] at kk; cases kk
    | step kk kr => exact ih kr st.good
end Go.Proofs.YtamfekpcoppbgaaFmt
