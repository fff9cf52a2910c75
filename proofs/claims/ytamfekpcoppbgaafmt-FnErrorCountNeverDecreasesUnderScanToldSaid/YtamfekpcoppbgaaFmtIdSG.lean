/-
  scanIdentifier at an identifier byte whose run ends at an ASCII byte or at the end: its text, where it stops, the errors it counts. Conditions: as stated.
-/
import Derived.Test.YtamfekpcoppbgaaFmtIdG
import Derived.Laws.IdiomStrings
namespace Go.Proofs.YtamfekpcoppbgaaFmt
open Go.RowKit
set_option maxRecDepth 100000
set_option linter.unusedVariables false

/-- the bytes from j to k -/
def cut (src : List UInt8) (j k : Nat) : List UInt8 := (src.drop j).take (k - j)
theorem cut_len (src : List UInt8) (j k : Nat) (hk : k ≤ src.length) : (cut src j k).length = k - j := by
  unfold cut
  simp
  omega
theorem run_cut (src : List UInt8) (j k b o cap : Nat) (W : World) (hjk : j ≤ k) (hk : k ≤ src.length) (hc : ∀ i (h : i < src.length), W.cell? ⟨b, o + i, none⟩ = some (.int .u8 (src[i].toNat : Int))) :
    (convert 22 9 (.slice (some ⟨b, o + j, none⟩) (k - j) cap)).run Tryf.prog W = .ok (.string ⟨(cut src j k).toArray⟩) W := by
  have e := cut_len src j k hk
  rw [← e]
  refine run_convert_bytes_back W _ _ 5 ⟨b, o + j, none⟩ _ (cut src j k) Tryf.underlying22 Tryf.underlying5 Tryf.underlying9 (fun i hi => ?_)
  have ea : (⟨b, o + j, none⟩ : Addr).add i = ⟨b, o + (j + i), none⟩ := by unfold Addr.add; split <;> simp_all [Nat.add_assoc]
  rw [ea, hc (j + i) (by omega)]
  have ee : (cut src j k)[i] = src[j + i]'(by omega) := by simp [cut]
  rw [ee]

theorem el_u8 : Tryf.prog.elem 22 = 5 := by kernel_rfl
theorem run_sl (W : World) (b o n cap j k : Nat) (hjk : j ≤ k) (hk : k ≤ cap) (hne : ¬ cap = j) : (Instr.slice 22 (.slice (some ⟨b, o, none⟩) n cap) (some (.int .i64 (j : Int))) (some (.int .i64 (k : Int))) none).run Tryf.prog W = .ok (.slice (some ⟨b, o + j, none⟩) (k - j) (cap - j)) W := by
  rw [run_slice_lh W 22 _ n cap (by rw [el_u8]; exact Tryf.underlying22) .i64 .i64 _ _ (by omega) (by omega) (by omega), el_u8]
  have hs : (sizeOf 5).run Tryf.prog W = .ok 1 W := by kernel_rfl
  rw [hs]
  simp [Result.andThen, sliced, Addr.add]
  rw [if_neg hne]
  split
  · simp [*]
  · rfl
theorem run_slA (W : World) (b o n cap j k : Nat) (hjk : j ≤ k) (hk : k ≤ cap) (hne : ¬ cap = j) : (Instr.sliceAt 22 (.slice (some ⟨b, o, none⟩) n cap) (some (.int .i64 (j : Int))) (some (.int .i64 (k : Int))) none).run Tryf.prog W = .ok (.slice (some ⟨b, o + j, none⟩) (k - j) (cap - j)) W := by
  rw [run_sliceAt_slice W _ _ _ _ _ (by rw [el_u8]; exact Tryf.underlying22)]
  exact run_sl W b o n cap j k hjk hk hne

/-- a state within the run, or at its end -/
structure InRun (src : List UInt8) (j k ec : Nat) (t : St) : Prop where
  good : Good src t
  lo : j ≤ t.off
  hi : t.off ≤ k
  ec : t.ec = ec + (if t.off = k ∧ k < src.length ∧ bt src k = 0 then 1 else 0)
theorem InRun.next {src : List UInt8} {j k ec : Nat} {t : St} (h : InRun src j k ec t) (hr : RunEnd src j k) (ha : k < src.length → bt src k < 128) (hlt : t.off < k) : InRun src j k ec (nx src t) := by
  have hp := hr.all t.off h.lo hlt
  have hl := hr.len
  have h128 := idp_ascii hp
  obtain ⟨h1, h2, h3, h4, h5⟩ := nx_ascii h.good (by omega) (by omega)
  have hec := h.ec
  rw [if_neg (by omega)] at hec
  refine ⟨h3, by have := h.lo; omega, by omega, ?_⟩
  rw [h2]
  by_cases hk : t.off + 1 = k
  · by_cases hkl : k < src.length
    · rw [h4 (by omega) (by rw [hk]; exact ha hkl), hec, hk]
      by_cases hz : bt src k = 0
      · rw [if_pos hz, if_pos ⟨rfl, hkl, hz⟩]
      · rw [if_neg hz, if_neg (fun h => hz h.2.2)]
    · rw [h5 (by omega), hec, if_neg (fun h => hkl h.2.1)]
  · have hp2 := idp_ascii (hr.all (t.off + 1) (by have := h.lo; omega) (by omega))
    rw [h4 (by omega) (by omega), hec, if_neg (by omega), if_neg (fun h => hk h.1)]
theorem InRun.ch {src : List UInt8} {j k ec : Nat} {t : St} (h : InRun src j k ec t) (hr : RunEnd src j k) (ha : k < src.length → bt src k < 128) : -1 ≤ t.ch ∧ t.ch < 128 ∧ (t.off < k → idp t.ch = true) ∧ (t.off = k → idp t.ch = false) := by
  have hl := hr.len
  have h2 := h.hi
  rcases h.good with ⟨h1, h3, h4⟩ | ⟨h1, h3, h4⟩
  · have hb : bt src t.off < 128 := by
      by_cases hk : t.off = k
      · rw [hk]
        exact ha (by omega)
      · have := idp_ascii (hr.all t.off h.lo (by omega))
        omega
    have hw := (rn_facts src t.off h1).2.2.2.2.2 hb
    rw [hw] at h4
    have h4' : t.ch = (bt src t.off : Int) := h4
    refine ⟨by omega, by omega, fun hh => by rw [h4']; exact hr.all t.off h.lo hh, fun hh => by rw [h4', hh]; exact hr.stop (by omega)⟩
  · refine ⟨by omega, by omega, fun hh => by omega, fun hh => by rw [h4]; decide⟩

def IdPost (F : Fix) (src : List UInt8) (j k ec : Nat) (w : World) (e : Ending) (w' : World) : Prop :=
  ∃ t : St, e = .returned (.string ⟨(cut src j k).toArray⟩) ∧ InRun src j k ec t ∧ t.off = k ∧ SC F src t w' ∧ Below F.B w w'

set_option maxHeartbeats 2000000 in
theorem scanId_any (F : Fix) (src : List UInt8) (s : St) (k : Nat) (w : World) (h : SC F src s w) (hg : Good src s) (hr : RunEnd src s.off k) (hjk : s.off < k) (ha : k < src.length → bt src k < 128) (hec : s.ec ≤ 1000000000) :
    Calls Tryf.prog 33 #[.pointer (some ⟨F.gS, 0, none⟩)] w (IdPost F src s.off k s.ec w) := by
  have c3 : w.cell? ⟨F.gS, 3, none⟩ = some (.int .i64 s.off) := by rw [h.blkS.cell]; rfl
  have hstart : InRun src s.off k s.ec s := ⟨hg, Nat.le_refl _, by omega, by rw [if_neg (by omega)]; rfl⟩
  have hl := hr.len
  have hlen := h.len
  have hcap := h.cap
  obtain ⟨j, hj⟩ : ∃ j, s.off = j := ⟨_, rfl⟩
  obtain ⟨ec, hec0⟩ : ∃ ec, s.ec = ec := ⟨_, rfl⟩
  rw [hj] at c3 hstart hr hjk ⊢
  rw [hec0] at hstart hec ⊢
  have H := Lib.hid h
  have HR := Lib.hid hr
  have HA := Lib.hid ha
  have HI := Lib.hid hstart
  clear h hg hr ha hstart hj hec0
  go_enter Tryf.func33, Tryf.ntmps33
  go_wp2_with fail
  go_loopw [] (fun wr => ∃ t : St, InRun src j k ec t ∧ SC F src t wr ∧ Below F.B w wr) (fun wr => k - ((match wr.cell? ⟨F.gS, 3, none⟩ with | some (.int _ z) => z | _ => 0) : Int).toNat)
  case atStart => exact ⟨s, HI.out, H.out, Below.refl _ _⟩
  case round =>
    obtain ⟨t, hin, hs, hb⟩ := hrel
    have hm : wr.cell? ⟨F.gS, 3, none⟩ = some (.int .i64 (t.off : Int)) := by rw [hs.blkS.cell]; rfl
    have c2 : wr.cell? ⟨F.gS, 2, none⟩ = some (.int .i32 t.ch) := by rw [hs.blkS.cell]; rfl
    obtain ⟨hc1, hc2, hcT, hcF⟩ := hin.ch HR.out HA.out
    have htec : t.ec ≤ ec + 1 := by
      rw [hin.ec]
      split <;> omega
    have hhi := hin.hi
    have hlo := hin.lo
    have HS := Lib.hid hs
    have HB := Lib.hid hb
    have HIN := Lib.hid hin
    have M1 := Lib.hid hm
    clear hs hb hin H HI c3
    by_cases hlt : t.off < k
    · have hp := hcT hlt
      have HN := Lib.hid (HIN.out.next HR.out HA.out hlt)
      have ho : (nx src t).off = t.off + 1 := (nx_ascii HIN.out.good (by omega) (by have := idp_ascii (HR.out.all t.off hlo hlt); omega)).2.1
      have HO := Lib.hid ho
      clear hcT hcF ho hm
      rcases hl2 : asciiLetter t.ch with _ | _
      · have hd : asciiDigit t.ch = true := by simpa [idp, hl2] using hp
        have HL := Lib.hid hl2
        have HD := Lib.hid hd
        clear hl2 hd hp
        go_wp2_with first | (go_at_call 32; refine (isLetter_ascii _ _ hc2).mono ?_; rintro e w' ⟨rfl, rfl⟩; rw [HL.out]) | (go_at_call 52; refine (isDigit_ascii _ _ hc2).mono ?_; rintro e w' ⟨rfl, rfl⟩; rw [HD.out])
        refine (next_any F src t _ HS.out (by omega)).mono ?_
        rintro e w2 ⟨rfl, hs2, hb2⟩
        have H2 := Lib.hid hs2
        have B2 := Lib.hid (HB.out.trans hb2)
        have hm2 : w2.cell? ⟨F.gS, 3, none⟩ = some (.int .i64 ((t.off + 1 : Nat) : Int)) := by
          rw [hs2.blkS.cell, ← HO.out]
          rfl
        have M2 := Lib.hid hm2
        clear hs2 hb2 hm2
        go_wp2_with fail
        go_roundw
        case rel => exact ⟨nx src t, HN.out, H2.out, B2.out⟩
        case measure =>
          rw [M2.out, M1.out]
          simp only [Int.toNat_natCast]
          omega
      · have HL := Lib.hid hl2
        clear hl2 hp
        go_wp2_with (go_at_call 32; refine (isLetter_ascii _ _ hc2).mono ?_; rintro e w' ⟨rfl, rfl⟩; rw [HL.out])
        refine (next_any F src t _ HS.out (by omega)).mono ?_
        rintro e w2 ⟨rfl, hs2, hb2⟩
        have H2 := Lib.hid hs2
        have B2 := Lib.hid (HB.out.trans hb2)
        have hm2 : w2.cell? ⟨F.gS, 3, none⟩ = some (.int .i64 ((t.off + 1 : Nat) : Int)) := by
          rw [hs2.blkS.cell, ← HO.out]
          rfl
        have M2 := Lib.hid hm2
        clear hs2 hb2 hm2
        go_wp2_with fail
        go_roundw
        case rel => exact ⟨nx src t, HN.out, H2.out, B2.out⟩
        case measure =>
          rw [M2.out, M1.out]
          simp only [Int.toNat_natCast]
          omega
    · obtain hk : t.off = k := by omega
      have hp := hcF hk
      have hl2 : asciiLetter t.ch = false := by
        rcases h : asciiLetter t.ch with _ | _
        · rfl
        · simp [idp, h] at hp
      have hd : asciiDigit t.ch = false := by
        rcases h : asciiDigit t.ch with _ | _
        · rfl
        · simp [idp, h] at hp
      have HL := Lib.hid hl2
      have HD := Lib.hid hd
      have HK := Lib.hid hk
      obtain ⟨b, o, eo, hbB, hcc⟩ := HS.out.srcAt.at_ (by omega)
      have c1 : wr.cell? ⟨F.gS, 1, none⟩ = some (.slice (some ⟨b, o, none⟩) src.length F.cap) := by rw [HS.out.blkS.cell, ← eo]; rfl
      have hcv := fun n => run_cut src j k b o (F.cap - j) (wr.drewN n) (by omega) hl hcc
      have hcv0 := run_cut src j k b o (F.cap - j) wr (by omega) hl hcc
      have hsl := fun W => run_sl W b o src.length F.cap j k (by omega) (by omega) (by omega)
      have hslA := fun W => run_slA W b o src.length F.cap j k (by omega) (by omega) (by omega)
      rw [hk] at hm
      have hne : ¬ (F.cap = j) := by omega
      have hj2 : j ≤ F.cap := by omega
      have hk2 : k ≤ F.cap := by omega
      clear hcT hcF hp hl2 hd eo hcc hk
      go_wp2_with first | (go_at_call 32; refine (isLetter_ascii _ _ hc2).mono ?_; rintro e w' ⟨rfl, rfl⟩; rw [HL.out]) | (go_at_call 52; refine (isDigit_ascii _ _ hc2).mono ?_; rintro e w' ⟨rfl, rfl⟩; rw [HD.out])
      go_quiet (fail)
      go_wp2
      go_ret
      exact ⟨t, rfl, HIN.out, HK.out, HS.out.drewN _, below_drewN0 HB.out _⟩

end Go.Proofs.YtamfekpcoppbgaaFmt
