/-
  The tables in every world above the call's first one; digits and identifiers at whatever source. Conditions: as stated.
-/
import Derived.Test.YtamfekpcoppbgaaFmtSkA
import Derived.Shelf.Unicode.PredsPay
namespace Go.Proofs.YtamfekpcoppbgaaFmt
open Go.RowKit
set_option maxRecDepth 100000
set_option linter.unusedVariables false

theorem isDigit_wide (c : Int) (w : World) (h : 128 ≤ c) (h1 : c ≤ 2147483647) (hV : Lib.RVar 3 Lib.digitT w) :
    Calls Tryf.prog 52 #[.int .i32 c] w fun e w' => e = .returned (.bool (Lib.isDigitU c)) ∧ Below w.heap.size w w' := by
  have H := Lib.hid hV
  clear hV
  have t1 : ¬ c ≤ 57 := by omega
  have t2 : 48 ≤ c := by omega
  go_enter Tryf.func52, Tryf.ntmps52
  go_wp2_with (go_at_call 63; refine (Tryf.unicode_IsDigit_all _ _ (by omega) (by omega) H.out).mono ?_; rintro e w1 ⟨rfl, hb⟩; have HB := Lib.hid hb; clear hb)
  go_ret
  exact ⟨rfl, HB.out⟩
def isDigitG (c : Int) : Bool := asciiDigit c || (decide (128 ≤ c) && Lib.isDigitU c)
theorem isDigit_any (c : Int) (w : World) (h1 : c ≤ 2147483647) (hV : Lib.RVar 3 Lib.digitT w) :
    Calls Tryf.prog 52 #[.int .i32 c] w fun e w' => e = .returned (.bool (isDigitG c)) ∧ Below w.heap.size w w' := by
  by_cases h : 128 ≤ c
  · have e : isDigitG c = Lib.isDigitU c := by
      have : asciiDigit c = false := by simp [asciiDigit]; omega
      simp [isDigitG, this, h]
    rw [e]
    exact isDigit_wide c w h h1 hV
  · have e : isDigitG c = asciiDigit c := by simp [isDigitG, h]
    rw [e]
    refine (isDigit_ascii c w (by omega)).mono ?_
    rintro e w' ⟨rfl, rfl⟩
    exact ⟨rfl, Below.refl _ _⟩
def identC (c : Int) : Bool := isLetterG c || isDigitG c
theorem identC_pos {c : Int} (h : identC c = true) : 48 ≤ c := by
  unfold identC isLetterG isDigitG asciiLetter asciiDigit at h
  simp only [Bool.or_eq_true, Bool.and_eq_true, decide_eq_true_eq] at h
  omega
/-- the listed tables, in the world in which the call began -/
structure Env (F : Fix) (W0 : World) : Prop where
  base : F.B = W0.heap.size
  letter : LetterTabs W0
  digit : Lib.RVar 3 Lib.digitT W0
theorem Env.letters {F : Fix} {W0 w : World} (h : Env F W0) (hb : Below F.B W0 w) : LetterTabs w := by
  rw [h.base] at hb
  exact ⟨TabIs_below (g := 1) (by kernel_rfl) h.letter.prop hb, RVar_below h.letter.letter hb⟩
theorem Env.digits {F : Fix} {W0 w : World} (h : Env F W0) (hb : Below F.B W0 w) : Lib.RVar 3 Lib.digitT w := by
  rw [h.base] at hb
  exact RVar_below h.digit hb
inductive IdR (src : List UInt8) : St → St → Prop
  | stop {s : St} : identC s.ch = false → IdR src s s
  | step {s t : St} : identC s.ch = true → IdR src (nx src s) t → IdR src s t
def IdAPost (F : Fix) (src : List UInt8) (s : St) (w : World) (e : Ending) (w' : World) : Prop :=
  ∃ t, IdR src s t ∧ OnWay src s t ∧ e = .returned (.string ⟨(cut src s.off t.off).toArray⟩) ∧ SC F src t w' ∧ Below F.B w w'
set_option maxHeartbeats 4000000 in
theorem scanIdA_any (F : Fix) (src : List UInt8) (s : St) (W0 w : World) (hE : Env F W0) (hb0 : Below F.B W0 w) (h : SC F src s w) (hg : Good src s) (hlt0 : s.off < src.length) (hec : s.ec ≤ 1000000000000) :
    Calls Tryf.prog 33 #[.pointer (some ⟨F.gS, 0, none⟩)] w (IdAPost F src s w) := by
  have c3 : w.cell? ⟨F.gS, 3, none⟩ = some (.int .i64 s.off) := by rw [h.blkS.cell]; rfl
  have hlen := h.len
  have hcap := h.cap
  obtain ⟨j, hj⟩ : ∃ j, s.off = j := ⟨_, rfl⟩
  rw [hj] at c3 hlt0
  have HJ := Lib.hid hj
  have H := Lib.hid h
  have HG := Lib.hid (OnWay.refl hg)
  have HE := Lib.hid hE
  have HB0 := Lib.hid hb0
  clear h hg hj hE hb0
  go_enter Tryf.func33, Tryf.ntmps33
  go_wp2_with fail
  go_loopw [] (fun wr => ∃ t : St, OnWay src s t ∧ (∀ u, IdR src t u → IdR src s u) ∧ SC F src t wr ∧ Below F.B w wr) (fun wr => src.length + 1 - ((match wr.cell? ⟨F.gS, 3, none⟩ with | some (.int _ z) => z | _ => 0) : Int).toNat)
  case atStart => exact ⟨s, HG.out, fun u h => h, H.out, Below.refl _ _⟩
  case round =>
    obtain ⟨t, hway, hgo, hs, hbw⟩ := hrel
    have d2 : wr.cell? ⟨F.gS, 2, none⟩ = some (.int .i32 t.ch) := by rw [hs.blkS.cell]; rfl
    have d3 : wr.cell? ⟨F.gS, 3, none⟩ = some (.int .i64 (t.off : Int)) := by rw [hs.blkS.cell]; rfl
    have htl := hs.off
    have hch := hs.ch
    have hte : t.ec ≤ 1000001048576 := by have := hway.ec; omega
    have hjt : j ≤ t.off := by have := hway.lo; have := HJ.out; omega
    have M1 := Lib.hid d3
    have HS := Lib.hid hs
    have HBW := Lib.hid hbw
    have HWAY := Lib.hid hway
    have HGO := Lib.hid hgo
    have HLT := Lib.hid (HE.out.letters (HB0.out.trans hbw))
    clear hs hbw hway hgo H HG c3 d3
    go_wp2_with (go_at_call 32; refine Hid.out ?_)
    refine Lib.hid ?_
    refine (isLetter_any t.ch wr (by omega) HLT.out).mono ?_
    rintro e w1 ⟨rfl, hb1⟩
    have hs1 := HS.out.below hb1
    have hbw1 := HBW.out.trans (hb1.mono (by have := HS.out.hS; have := HS.out.blkS.lt; omega))
    have d2 : w1.cell? ⟨F.gS, 2, none⟩ = some (.int .i32 t.ch) := by rw [hs1.blkS.cell]; rfl
    have S1 := Lib.hid hs1
    have B1 := Lib.hid hbw1
    have HDG := Lib.hid (HE.out.digits (HB0.out.trans hbw1))
    clear hs1 hbw1 hb1 HLT
    rcases hL : isLetterG t.ch with _ | _
    · have HL := Lib.hid hL
      clear hL
      go_wp2_with (go_at_call 52; refine Hid.out ?_)
      refine Lib.hid ?_
      refine (isDigit_any t.ch w1 (by omega) HDG.out).mono ?_
      rintro e w2 ⟨rfl, hb2⟩
      have hs2 := S1.out.below hb2
      have hbw2 := B1.out.trans (hb2.mono (by have := S1.out.hS; have := S1.out.blkS.lt; omega))
      have d22 : w2.cell? ⟨F.gS, 2, none⟩ = some (.int .i32 t.ch) := by rw [hs2.blkS.cell]; rfl
      have d23 : w2.cell? ⟨F.gS, 3, none⟩ = some (.int .i64 (t.off : Int)) := by rw [hs2.blkS.cell]; rfl
      have S2 := Lib.hid hs2
      have B2 := Lib.hid hbw2
      clear hb2 hs2 hbw2 HDG
      rcases hD : isDigitG t.ch with _ | _
      · have HI : Hid (identC t.ch = false) := Lib.hid (by simp [identC, HL.out, hD])
        have HD := Lib.hid hD
        clear hD
        have HX := Lib.hid (HGO.out t (IdR.stop HI.out))
        obtain ⟨b, o, eo, hbB, hcc⟩ := S2.out.srcAt.at_ (by omega)
        have c1 : w2.cell? ⟨F.gS, 1, none⟩ = some (.slice (some ⟨b, o, none⟩) src.length F.cap) := by rw [S2.out.blkS.cell, ← eo]; rfl
        obtain ⟨k, hk⟩ : ∃ k, t.off = k := ⟨_, rfl⟩
        rw [hk] at d23 hjt htl
        have HK := Lib.hid hk
        have hcv := fun n => run_cut src j k b o (F.cap - j) (w2.drewN n) (by omega) htl hcc
        have hcv0 := run_cut src j k b o (F.cap - j) w2 (by omega) htl hcc
        have hsl := fun W => run_sl W b o src.length F.cap j k (by omega) (by omega) (by omega)
        have hslA := fun W => run_slA W b o src.length F.cap j k (by omega) (by omega) (by omega)
        have hne : ¬ (F.cap = j) := by omega
        have hj2 : j ≤ F.cap := by omega
        have hk2 : k ≤ F.cap := by omega
        clear eo hcc hk d2
        go_wp2_with fail
        go_quiet (fail)
        go_wp2
        go_ret
        exact ⟨t, HX.out, HWAY.out, by rw [HJ.out, HK.out]; rfl, S2.out.drewN _, below_drewN0 B2.out _⟩
      · have HI : Hid (identC t.ch = true) := Lib.hid (by simp [identC, HL.out, hD])
        have HD := Lib.hid hD
        clear hD
        have hpos := identC_pos HI.out
        have HN := Lib.hid (HWAY.out.next (by omega))
        have hfar := (step_of HWAY.out.good (by omega)).far
        go_wp2_with (go_at_call 37; refine Hid.out ?_)
        refine Lib.hid ?_
        refine (next_any F src t _ S2.out (by omega)).mono ?_
        rintro e w3 ⟨rfl, hs3, hb3⟩
        have H3 := Lib.hid hs3
        have B3 := Lib.hid (B2.out.trans hb3)
        have M2 : Hid (w3.cell? ⟨F.gS, 3, none⟩ = some (.int .i64 ((nx src t).off : Int))) := Lib.hid (by rw [hs3.blkS.cell]; rfl)
        have hso := hs3.off
        have HG2 : Hid (∀ u, IdR src (nx src t) u → IdR src s u) := Lib.hid (fun u hu => HGO.out u (IdR.step HI.out hu))
        clear hs3 hb3
        go_wp2_with fail
        go_roundw
        case rel => exact ⟨nx src t, HN.out, HG2.out, H3.out, B3.out⟩
        case measure =>
          rw [M2.out, M1.out]
          simp only [Int.toNat_natCast]
          omega
    · have HI : Hid (identC t.ch = true) := Lib.hid (by simp [identC, hL])
      have HL := Lib.hid hL
      clear hL
      have hpos := identC_pos HI.out
      have HN := Lib.hid (HWAY.out.next (by omega))
      have hfar := (step_of HWAY.out.good (by omega)).far
      go_wp2_with (go_at_call 37; refine Hid.out ?_)
      refine Lib.hid ?_
      refine (next_any F src t _ S1.out (by omega)).mono ?_
      rintro e w3 ⟨rfl, hs3, hb3⟩
      have H3 := Lib.hid hs3
      have B3 := Lib.hid (B1.out.trans hb3)
      have M2 : Hid (w3.cell? ⟨F.gS, 3, none⟩ = some (.int .i64 ((nx src t).off : Int))) := Lib.hid (by rw [hs3.blkS.cell]; rfl)
      have hso := hs3.off
      have HG2 : Hid (∀ u, IdR src (nx src t) u → IdR src s u) := Lib.hid (fun u hu => HGO.out u (IdR.step HI.out hu))
      clear hs3 hb3
      go_wp2_with fail
      go_roundw
      case rel => exact ⟨nx src t, HN.out, HG2.out, H3.out, B3.out⟩
      case measure =>
        rw [M2.out, M1.out]
        simp only [Int.toNat_natCast]
        omega
end Go.Proofs.YtamfekpcoppbgaaFmt
