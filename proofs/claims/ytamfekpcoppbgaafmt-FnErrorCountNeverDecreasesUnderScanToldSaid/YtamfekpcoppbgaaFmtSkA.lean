/-
  skipWhitespace, FileSetPos and Lookup. Conditions: as stated.
-/
import Derived.Test.YtamfekpcoppbgaaFmtLitM
namespace Go.Proofs.YtamfekpcoppbgaaFmt
open Go.RowKit
set_option maxRecDepth 100000
set_option linter.unusedVariables false

/-- what skipWhitespace skips -/
def wsp (s : St) : Bool := decide (s.ch = 32 ∨ s.ch = 9 ∨ (s.ch = 10 ∧ s.semi = false) ∨ s.ch = 13)
inductive SkipR (src : List UInt8) : St → St → Prop
  | stop {s : St} : wsp s = false → SkipR src s s
  | step {s t : St} : wsp s = true → SkipR src (nx src s) t → SkipR src s t
structure SkWay (src : List UInt8) (s t : St) : Prop where
  good : Good src t
  off : s.off ≤ t.off
  ec : t.ec + s.off ≤ s.ec + t.off
  semi : t.semi = s.semi
theorem nx_semi (src : List UInt8) (s : St) : (nx src s).semi = s.semi := by
  unfold nx
  split <;> rfl
theorem wsp_pos {s : St} (h : wsp s = true) : 0 ≤ s.ch := by
  have := of_decide_eq_true h
  omega
theorem SkWay.refl {src : List UInt8} {s : St} (h : Good src s) : SkWay src s s := ⟨h, Nat.le_refl _, Nat.le_refl _, rfl⟩
theorem SkWay.next {src : List UInt8} {s t : St} (h : SkWay src s t) (hc : 0 ≤ t.ch) : SkWay src s (nx src t) := by
  have st := step_of h.good hc
  have h1 := st.far
  have h2 := st.ec
  exact ⟨st.good, by have := h.off; omega, by have := h.ec; omega, (nx_semi src t).trans h.semi⟩
def SkipPost (F : Fix) (src : List UInt8) (s : St) (w : World) (e : Ending) (w' : World) : Prop :=
  ∃ t, e = .returned (.tuple #[]) ∧ SkipR src s t ∧ SkWay src s t ∧ SC F src t w' ∧ Below F.B w w'
set_option maxHeartbeats 4000000 in
theorem skip_any (F : Fix) (src : List UInt8) (s : St) (w : World) (h : SC F src s w) (hg : Good src s) (hec : s.ec ≤ 1000000000000) :
    Calls Tryf.prog 30 #[.pointer (some ⟨F.gS, 0, none⟩)] w (SkipPost F src s w) := by
  have hlen := h.len
  have H := Lib.hid h
  have HG := Lib.hid (SkWay.refl hg)
  clear h hg
  go_enter Tryf.func30, Tryf.ntmps30
  go_wp2_with fail
  go_loopw [] (fun wr => ∃ t : St, SkWay src s t ∧ (∀ u, SkipR src t u → SkipR src s u) ∧ SC F src t wr ∧ Below F.B w wr) (fun wr => src.length + 1 - ((match wr.cell? ⟨F.gS, 3, none⟩ with | some (.int _ z) => z | _ => 0) : Int).toNat)
  case atStart => exact ⟨s, HG.out, fun u h => h, H.out, Below.refl _ _⟩
  case round =>
    obtain ⟨t, hway, hgo, hs, hbw⟩ := hrel
    have d2 : wr.cell? ⟨F.gS, 2, none⟩ = some (.int .i32 t.ch) := by rw [hs.blkS.cell]; rfl
    have d3 : wr.cell? ⟨F.gS, 3, none⟩ = some (.int .i64 (t.off : Int)) := by rw [hs.blkS.cell]; rfl
    have d6 : wr.cell? ⟨F.gS, 6, none⟩ = some (.bool t.semi) := by rw [hs.blkS.cell]; rfl
    have htl := hs.off
    have hch := hs.ch
    have hte : t.ec ≤ 1000001048576 := by have := hway.ec; omega
    have M1 := Lib.hid d3
    have HS := Lib.hid hs
    have HBW := Lib.hid hbw
    have HWAY := Lib.hid hway
    have HGO := Lib.hid hgo
    clear hs hbw hway hgo H HG d3
    rcases hdg : wsp t with _ | _
    · have HX := Lib.hid (HGO.out t (SkipR.stop hdg))
      have hx := of_decide_eq_false hdg
      have t1 : (t.ch == 32) = false := by simp; omega
      have t2 : (t.ch == 9) = false := by simp; omega
      have t3 : (t.ch == 13) = false := by simp; omega
      by_cases h10 : t.ch = 10
      · have hsm : t.semi = true := by
          rcases hh : t.semi with _ | _
          · exact absurd (Or.inr (Or.inr (Or.inl ⟨h10, hh⟩))) hx
          · rfl
        have t4 : (t.ch == 10) = true := by simpa using h10
        rw [hsm] at d6
        clear hdg hx hsm h10
        go_wp2_with fail
        go_end0
        exact ⟨t, rfl, HX.out, HWAY.out, HS.out, HBW.out⟩
      · have t4 : (t.ch == 10) = false := by simpa using h10
        clear hdg hx h10
        go_wp2_with fail
        go_end0
        exact ⟨t, rfl, HX.out, HWAY.out, HS.out, HBW.out⟩
    · have hpos := wsp_pos hdg
      have st := step_of HWAY.out.good hpos
      have hfar := st.far
      have hltn := st.lt
      have HNW := Lib.hid (HWAY.out.next hpos)
      have HN := Lib.hid (fun u (hu : SkipR src (nx src t) u) => HGO.out u (SkipR.step hdg hu))
      have hx := of_decide_eq_true hdg
      clear st hdg
      rcases hx with hx | hx | ⟨hx, hsm⟩ | hx
      · have t1 : (t.ch == 32) = true := by simpa using hx
        clear hx
        go_wp2_with fail
        refine (next_any F src t _ HS.out (by omega)).mono ?_
        rintro e w2 ⟨rfl, hs2, hb2⟩
        have H2 := Lib.hid hs2
        have B2 := Lib.hid (HBW.out.trans hb2)
        have hm2 : w2.cell? ⟨F.gS, 3, none⟩ = some (.int .i64 ((nx src t).off : Int)) := by rw [hs2.blkS.cell]; rfl
        have M2 := Lib.hid hm2
        clear hs2 hb2 hm2
        go_wp2_with fail
        go_roundw
        case rel => exact ⟨nx src t, HNW.out, HN.out, H2.out, B2.out⟩
        case measure =>
          rw [M2.out, M1.out]
          simp only [Int.toNat_natCast]
          omega
      · have t1 : (t.ch == 32) = false := by simp; omega
        have t2 : (t.ch == 9) = true := by simpa using hx
        clear hx
        go_wp2_with fail
        refine (next_any F src t _ HS.out (by omega)).mono ?_
        rintro e w2 ⟨rfl, hs2, hb2⟩
        have H2 := Lib.hid hs2
        have B2 := Lib.hid (HBW.out.trans hb2)
        have hm2 : w2.cell? ⟨F.gS, 3, none⟩ = some (.int .i64 ((nx src t).off : Int)) := by rw [hs2.blkS.cell]; rfl
        have M2 := Lib.hid hm2
        clear hs2 hb2 hm2
        go_wp2_with fail
        go_roundw
        case rel => exact ⟨nx src t, HNW.out, HN.out, H2.out, B2.out⟩
        case measure =>
          rw [M2.out, M1.out]
          simp only [Int.toNat_natCast]
          omega
      · have t1 : (t.ch == 32) = false := by simp; omega
        have t2 : (t.ch == 9) = false := by simp; omega
        have t4 : (t.ch == 10) = true := by simpa using hx
        rw [hsm] at d6
        clear hx hsm
        go_wp2_with fail
        refine (next_any F src t _ HS.out (by omega)).mono ?_
        rintro e w2 ⟨rfl, hs2, hb2⟩
        have H2 := Lib.hid hs2
        have B2 := Lib.hid (HBW.out.trans hb2)
        have hm2 : w2.cell? ⟨F.gS, 3, none⟩ = some (.int .i64 ((nx src t).off : Int)) := by rw [hs2.blkS.cell]; rfl
        have M2 := Lib.hid hm2
        clear hs2 hb2 hm2
        go_wp2_with fail
        go_roundw
        case rel => exact ⟨nx src t, HNW.out, HN.out, H2.out, B2.out⟩
        case measure =>
          rw [M2.out, M1.out]
          simp only [Int.toNat_natCast]
          omega
      · have t1 : (t.ch == 32) = false := by simp; omega
        have t2 : (t.ch == 9) = false := by simp; omega
        have t4 : (t.ch == 10) = false := by simp; omega
        have t3 : (t.ch == 13) = true := by simpa using hx
        clear hx
        go_wp2_with fail
        refine (next_any F src t _ HS.out (by omega)).mono ?_
        rintro e w2 ⟨rfl, hs2, hb2⟩
        have H2 := Lib.hid hs2
        have B2 := Lib.hid (HBW.out.trans hb2)
        have hm2 : w2.cell? ⟨F.gS, 3, none⟩ = some (.int .i64 ((nx src t).off : Int)) := by rw [hs2.blkS.cell]; rfl
        have M2 := Lib.hid hm2
        clear hs2 hb2 hm2
        go_wp2_with fail
        go_roundw
        case rel => exact ⟨nx src t, HNW.out, HN.out, H2.out, B2.out⟩
        case measure =>
          rw [M2.out, M1.out]
          simp only [Int.toNat_natCast]
          omega

set_option maxHeartbeats 400000 in
theorem fsp_any (g : Nat) (fx : FileFix) (n o : Nat) (lv : Value) (w : World) (h : Blk w g 32 (flCells fx n lv)) (ho : o ≤ n) (hn : n ≤ 1048576) :
    Calls Tryf.prog 31 #[.pointer (some ⟨g, 0, none⟩), .int .i64 (o : Int)] w fun e w' => e = .returned (.int .i64 (wrap64 ((fx.base : Int) + (o : Int)))) ∧ w = w' := by
  have c2 : w.cell? ⟨g, 2, none⟩ = some (.int .i64 (fx.base : Int)) := by rw [h.cell]; rfl
  have c3 : w.cell? ⟨g, 3, none⟩ = some (.int .i64 (n : Int)) := by rw [h.cell]; rfl
  have t1 : decide ((o : Int) > (n : Int)) = false := by simp; omega
  clear h
  go_enter Tryf.func31, Tryf.ntmps31
  go_wp2_with fail
  go_ret
  exact ⟨rfl, rfl⟩
/-- the keywords' spellings differ from a text of one letter -/
def KwAt (w : World) : Prop := 0 < w.heap.size ∧ ∀ n, 60 ≤ n → n < 75 → ∃ s : List UInt8, w.cell? ⟨0, n, none⟩ = some (.string ⟨s.toArray⟩) ∧ 2 ≤ s.length ∧ s.length ≤ 100
theorem KwAt.below {w w' : World} {B : Nat} (h : KwAt w) (hB : 0 < B) (hb : Below B w w') : KwAt w' :=
  ⟨Nat.lt_of_lt_of_le h.1 hb.size, fun n h1 h2 => let ⟨s, a, b⟩ := h.2 n h1 h2; ⟨s, (hb.cell (p := ⟨0, n, none⟩) hB).trans a, b⟩⟩
set_option maxHeartbeats 1000000 in
theorem lookup_short (t : List UInt8) (w : World) (ht : t.length ≤ 1) (h : KwAt w) : Calls Tryf.prog 34 #[.string ⟨t.toArray⟩] w fun e w' => e = .returned (.int .i64 4) ∧ w = w' := by
  have H := Lib.hid h
  clear h
  go_enter Tryf.func34, Tryf.ntmps34
  go_wp2_with fail
  go_loop [3] (fun i => ∃ k : Nat, 60 ≤ k ∧ k ≤ 75 ∧ i = .int .i64 k) (fun i => 75 - (intOf i).toNat)
  case atStart => exact ⟨60, by omega, by omega, rfl⟩
  case round =>
    obtain ⟨k, hk0, hk1, rfl⟩ := hrel
    by_cases hlt : k < 75
    · obtain ⟨s, c1, hs1, hs2⟩ := H.out.2 k hk0 hlt
      have hne : (s == t) = false := by
        have : s ≠ t := by
          rintro rfl
          omega
        simpa using this
      have tl : decide ((k : Int) < 75) = true := by simp; omega
      go_wp2_with fail
      go_round
      case rel => exact ⟨k + 1, by omega, by omega, by go_num⟩
      case measure => simp [intOf]; omega
    · obtain rfl : k = 75 := by omega
      go_wp2_with fail
      go_ret
      exact ⟨rfl, rfl⟩
end Go.Proofs.YtamfekpcoppbgaaFmt
