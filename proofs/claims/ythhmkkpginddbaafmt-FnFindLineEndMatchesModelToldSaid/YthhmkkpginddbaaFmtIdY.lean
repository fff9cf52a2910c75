/-
  scanIdentifier, the mode and the flag kept. Conditions: as stated.
-/
import Derived.Test.YthhmkkpginddbaaFmtSkB
namespace Go.Proofs.YthhmkkpginddbaaFmt
open Go.RowKit
set_option maxRecDepth 100000
set_option linter.unusedVariables false

theorem nx_mode (src : List UInt8) (s : St) : (nx src s).mode = s.mode := by
  unfold nx
  split <;> rfl
def IdPost2 (F : Fix) (src : List UInt8) (s : St) (k : Nat) (w : World) (e : Ending) (w' : World) : Prop :=
  ∃ t : St, e = .returned (.string ⟨(cut src s.off k).toArray⟩) ∧ InRun src s.off k s.ec t ∧ t.off = k ∧ t.mode = s.mode ∧ t.semi = s.semi ∧ SC F src t w' ∧ Below F.B w w'
set_option maxHeartbeats 2000000 in
theorem scanId2_any (F : Fix) (src : List UInt8) (s : St) (k : Nat) (w : World) (h : SC F src s w) (hg : Good src s) (hr : RunEnd src s.off k) (hjk : s.off < k) (ha : k < src.length → bt src k < 128) (hec : s.ec ≤ 1000000000) :
    Calls Tryf.prog 32 #[.pointer (some ⟨F.gS, 0, none⟩)] w (IdPost2 F src s k w) := by
  have c3 : w.cell? ⟨F.gS, 3, none⟩ = some (.int .i64 s.off) := by rw [h.blkS.cell]; rfl
  have hstart : InRun src s.off k s.ec s := ⟨hg, Nat.le_refl _, by omega, by rw [if_neg (by omega)]; rfl⟩
  have hl := hr.len
  have hlen := h.len
  have hcap := h.cap
  obtain ⟨j, hj⟩ : ∃ j, s.off = j := ⟨_, rfl⟩
  obtain ⟨ec, hec0⟩ : ∃ ec, s.ec = ec := ⟨_, rfl⟩
  rw [hj] at c3 hstart hr hjk
  rw [hec0] at hstart hec
  have HJ := Lib.hid hj
  have HE := Lib.hid hec0
  have H := Lib.hid h
  have HR := Lib.hid hr
  have HA := Lib.hid ha
  have HI := Lib.hid hstart
  clear h hg hr ha hstart hj hec0
  go_enter Tryf.func32, Tryf.ntmps32
  go_wp2_with fail
  go_loopw [] (fun wr => ∃ t : St, InRun src j k ec t ∧ (t.mode = s.mode ∧ t.semi = s.semi) ∧ SC F src t wr ∧ Below F.B w wr) (fun wr => k - ((match wr.cell? ⟨F.gS, 3, none⟩ with | some (.int _ z) => z | _ => 0) : Int).toNat)
  case atStart => exact ⟨s, HI.out, ⟨rfl, rfl⟩, H.out, Below.refl _ _⟩
  case round =>
    obtain ⟨t, hin, hms, hs, hb⟩ := hrel
    have HMS := Lib.hid hms
    clear hms
    have hm : wr.cell? ⟨F.gS, 3, none⟩ = some (.int .i64 (t.off : Int)) := by rw [hs.blkS.cell]; rfl
    have c2 : wr.cell? ⟨F.gS, 2, none⟩ = some (.int .i32 t.ch) := by rw [hs.blkS.cell]; rfl
    obtain ⟨hc1, hc2, hcT, hcF⟩ := hin.ch HR.out HA.out
    have htec : t.ec ≤ ec + 1 := by
      rw [hin.ec]
      split <;> omega
    have hhi := hin.hi
    have hlo := hin.lo
    have HS := Lib.hid hs
    have HB := Lib.hid hb
    have HIN := Lib.hid hin
    have M1 := Lib.hid hm
    clear hs hb hin H HI c3
    by_cases hlt : t.off < k
    · have hp := hcT hlt
      have HN := Lib.hid (HIN.out.next HR.out HA.out hlt)
      have ho : (nx src t).off = t.off + 1 := (nx_ascii HIN.out.good (by omega) (by have := idp_ascii (HR.out.all t.off hlo hlt); omega)).2.1
      have HO := Lib.hid ho
      clear hcT hcF ho hm
      rcases hl2 : asciiLetter t.ch with _ | _
      · have hd : asciiDigit t.ch = true := by simpa [idp, hl2] using hp
        have HL := Lib.hid hl2
        have HD := Lib.hid hd
        clear hl2 hd hp
        go_wp2_with first | (go_at_call 40; refine (isLetter_ascii _ _ hc2).mono ?_; rintro e w' ⟨rfl, rfl⟩; rw [HL.out]) | (go_at_call 41; refine (isDigit_ascii _ _ hc2).mono ?_; rintro e w' ⟨rfl, rfl⟩; rw [HD.out])
        refine (next_any F src t _ HS.out (by omega)).mono ?_
        rintro e w2 ⟨rfl, hs2, hb2⟩
        have H2 := Lib.hid hs2
        have B2 := Lib.hid (HB.out.trans hb2)
        have hm2 : w2.cell? ⟨F.gS, 3, none⟩ = some (.int .i64 ((t.off + 1 : Nat) : Int)) := by
          rw [hs2.blkS.cell, ← HO.out]
          rfl
        have M2 := Lib.hid hm2
        clear hs2 hb2 hm2
        go_wp2_with fail
        go_roundw
        case rel => exact ⟨nx src t, HN.out, ⟨(nx_mode src t).trans HMS.out.1, (nx_semi src t).trans HMS.out.2⟩, H2.out, B2.out⟩
        case measure =>
          rw [M2.out, M1.out]
          simp only [Int.toNat_natCast]
          omega
      · have HL := Lib.hid hl2
        clear hl2 hp
        go_wp2_with (go_at_call 40; refine (isLetter_ascii _ _ hc2).mono ?_; rintro e w' ⟨rfl, rfl⟩; rw [HL.out])
        refine (next_any F src t _ HS.out (by omega)).mono ?_
        rintro e w2 ⟨rfl, hs2, hb2⟩
        have H2 := Lib.hid hs2
        have B2 := Lib.hid (HB.out.trans hb2)
        have hm2 : w2.cell? ⟨F.gS, 3, none⟩ = some (.int .i64 ((t.off + 1 : Nat) : Int)) := by
          rw [hs2.blkS.cell, ← HO.out]
          rfl
        have M2 := Lib.hid hm2
        clear hs2 hb2 hm2
        go_wp2_with fail
        go_roundw
        case rel => exact ⟨nx src t, HN.out, ⟨(nx_mode src t).trans HMS.out.1, (nx_semi src t).trans HMS.out.2⟩, H2.out, B2.out⟩
        case measure =>
          rw [M2.out, M1.out]
          simp only [Int.toNat_natCast]
          omega
    · obtain hk : t.off = k := by omega
      have hp := hcF hk
      have hl2 : asciiLetter t.ch = false := by
        rcases h : asciiLetter t.ch with _ | _
        · rfl
        · simp [idp, h] at hp
      have hd : asciiDigit t.ch = false := by
        rcases h : asciiDigit t.ch with _ | _
        · rfl
        · simp [idp, h] at hp
      have HL := Lib.hid hl2
      have HD := Lib.hid hd
      have HK := Lib.hid hk
      obtain ⟨b, o, eo, hbB, hcc⟩ := HS.out.srcAt.at_ (by omega)
      have c1 : wr.cell? ⟨F.gS, 1, none⟩ = some (.slice (some ⟨b, o, none⟩) src.length F.cap) := by rw [HS.out.blkS.cell, ← eo]; rfl
      have hcv := fun n => run_cut src j k b o (F.cap - j) (wr.drewN n) (by omega) hl hcc
      have hcv0 := run_cut src j k b o (F.cap - j) wr (by omega) hl hcc
      have hsl := fun W => run_sl W b o src.length F.cap j k (by omega) (by omega) (by omega)
      have hslA := fun W => run_slA W b o src.length F.cap j k (by omega) (by omega) (by omega)
      rw [hk] at hm
      have hne : ¬ (F.cap = j) := by omega
      have hj2 : j ≤ F.cap := by omega
      have hk2 : k ≤ F.cap := by omega
      clear hcT hcF hp hl2 hd eo hcc hk
      go_wp2_with first | (go_at_call 40; refine (isLetter_ascii _ _ hc2).mono ?_; rintro e w' ⟨rfl, rfl⟩; rw [HL.out]) | (go_at_call 41; refine (isDigit_ascii _ _ hc2).mono ?_; rintro e w' ⟨rfl, rfl⟩; rw [HD.out])
      go_quiet (fail)
      go_wp2
      go_ret
      exact ⟨t, by rw [HJ.out]; rfl, by rw [HJ.out, HE.out]; exact HIN.out, HK.out, HMS.out.1, HMS.out.2, HS.out.drewN _, below_drewN0 HB.out _⟩

end Go.Proofs.YthhmkkpginddbaaFmt
