/-
  scanEscape, walked. Conditions: few errors so far; the quote is no negative number; fmt answers by the tape.
-/
import Derived.Test.YtamfekpcoppbgaaFmtEscMG
import Derived.Test.YtamfekpcoppbgaaFmtSpf
import Derived.Deep.DeepCutAuto
import Derived.Deep.CutBlock
namespace Go.Proofs.YtamfekpcoppbgaaFmt
open Go.RowKit
set_option maxRecDepth 100000
set_option linter.unusedVariables false

set_option maxHeartbeats 4000000 in
theorem esc_num (I : Go.Stop.Interp) (F : Fix) (src : List UInt8) (q : Int) (s : St) (w : World) (hF : I.answers w.tape) (hq : 0 ≤ q) (hq2 : q < 128) (h : SC F src s w) (hg : Good src s) (hec : s.ec ≤ 1000000000000) (hns : escSimple q s.ch = false) (n b m : Nat) (k : Bool) (hN : escN s.ch = some (n, b, m, k)) :
    Calls Tryf.prog 57 #[.pointer (some ⟨F.gS, 0, none⟩), .int .i32 q] w (EscPost F src q s w) := by
  have d2 : w.cell? ⟨F.gS, 2, none⟩ = some (.int .i32 s.ch) := by rw [h.blkS.cell]; rfl
  have d3 : w.cell? ⟨F.gS, 3, none⟩ = some (.int .i64 (s.off : Int)) := by rw [h.blkS.cell]; rfl
  have hx : ¬ (s.ch = 97 ∨ s.ch = 98 ∨ s.ch = 102 ∨ s.ch = 110 ∨ s.ch = 114 ∨ s.ch = 116 ∨ s.ch = 118 ∨ s.ch = 92 ∨ s.ch = q) := of_decide_eq_false hns
  have ne1 : (s.ch == 97) = false := by simp; omega
  have ne2 : (s.ch == 98) = false := by simp; omega
  have ne3 : (s.ch == 102) = false := by simp; omega
  have ne4 : (s.ch == 110) = false := by simp; omega
  have ne5 : (s.ch == 114) = false := by simp; omega
  have ne6 : (s.ch == 116) = false := by simp; omega
  have ne7 : (s.ch == 118) = false := by simp; omega
  have ne8 : (s.ch == 92) = false := by simp; omega
  have ne9 : (s.ch == q) = false := by simp; omega
  have H := Lib.hid h
  have HN := Lib.hid hN
  have HG := Lib.hid hg
  have HF := Lib.hid hF
  have HNS := Lib.hid hns
  have h_len := h.len
  clear h hN hg hx hns hF
  go_enter Tryf.func57, Tryf.ntmps57
  go_upto_block 0 with fail
  go_cut [6, 7, 8] (fun s6 s7 s8 wx => s6 = .int .i64 (n : Int) ∧ s7 = .int .u32 (b : Int) ∧ s8 = .int .u32 (m : Int) ∧ SC F src (if k then nx src s else s) wx ∧ Below F.B w wx)
  case first =>
    have hk := escN_kind HN.out
    rcases hk with ⟨hv, hh⟩ | ⟨hv, hh⟩ | ⟨hv, hh⟩ | ⟨hv, hh⟩ | ⟨hv, hh⟩ | ⟨hv, hh⟩ | ⟨hv, hh⟩ | ⟨hv, hh⟩ | ⟨hv, hh⟩ | ⟨hv, hh⟩ | ⟨hv, hh⟩
    · obtain ⟨rfl, rfl, rfl, rfl⟩ := hh
      have v48 : (s.ch == 48) = true := by simpa using hv
      have HV := Lib.hid hv
      clear hv
      go_wp2_with fail
      go_meet
      exact ⟨rfl, rfl, rfl, H.out, Below.refl _ _⟩
    · obtain ⟨rfl, rfl, rfl, rfl⟩ := hh
      have v48 : (s.ch == 48) = false := by simp; omega
      have v49 : (s.ch == 49) = true := by simpa using hv
      have HV := Lib.hid hv
      clear hv
      go_wp2_with fail
      go_meet
      exact ⟨rfl, rfl, rfl, H.out, Below.refl _ _⟩
    · obtain ⟨rfl, rfl, rfl, rfl⟩ := hh
      have v48 : (s.ch == 48) = false := by simp; omega
      have v49 : (s.ch == 49) = false := by simp; omega
      have v50 : (s.ch == 50) = true := by simpa using hv
      have HV := Lib.hid hv
      clear hv
      go_wp2_with fail
      go_meet
      exact ⟨rfl, rfl, rfl, H.out, Below.refl _ _⟩
    · obtain ⟨rfl, rfl, rfl, rfl⟩ := hh
      have v48 : (s.ch == 48) = false := by simp; omega
      have v49 : (s.ch == 49) = false := by simp; omega
      have v50 : (s.ch == 50) = false := by simp; omega
      have v51 : (s.ch == 51) = true := by simpa using hv
      have HV := Lib.hid hv
      clear hv
      go_wp2_with fail
      go_meet
      exact ⟨rfl, rfl, rfl, H.out, Below.refl _ _⟩
    · obtain ⟨rfl, rfl, rfl, rfl⟩ := hh
      have v48 : (s.ch == 48) = false := by simp; omega
      have v49 : (s.ch == 49) = false := by simp; omega
      have v50 : (s.ch == 50) = false := by simp; omega
      have v51 : (s.ch == 51) = false := by simp; omega
      have v52 : (s.ch == 52) = true := by simpa using hv
      have HV := Lib.hid hv
      clear hv
      go_wp2_with fail
      go_meet
      exact ⟨rfl, rfl, rfl, H.out, Below.refl _ _⟩
    · obtain ⟨rfl, rfl, rfl, rfl⟩ := hh
      have v48 : (s.ch == 48) = false := by simp; omega
      have v49 : (s.ch == 49) = false := by simp; omega
      have v50 : (s.ch == 50) = false := by simp; omega
      have v51 : (s.ch == 51) = false := by simp; omega
      have v52 : (s.ch == 52) = false := by simp; omega
      have v53 : (s.ch == 53) = true := by simpa using hv
      have HV := Lib.hid hv
      clear hv
      go_wp2_with fail
      go_meet
      exact ⟨rfl, rfl, rfl, H.out, Below.refl _ _⟩
    · obtain ⟨rfl, rfl, rfl, rfl⟩ := hh
      have v48 : (s.ch == 48) = false := by simp; omega
      have v49 : (s.ch == 49) = false := by simp; omega
      have v50 : (s.ch == 50) = false := by simp; omega
      have v51 : (s.ch == 51) = false := by simp; omega
      have v52 : (s.ch == 52) = false := by simp; omega
      have v53 : (s.ch == 53) = false := by simp; omega
      have v54 : (s.ch == 54) = true := by simpa using hv
      have HV := Lib.hid hv
      clear hv
      go_wp2_with fail
      go_meet
      exact ⟨rfl, rfl, rfl, H.out, Below.refl _ _⟩
    · obtain ⟨rfl, rfl, rfl, rfl⟩ := hh
      have v48 : (s.ch == 48) = false := by simp; omega
      have v49 : (s.ch == 49) = false := by simp; omega
      have v50 : (s.ch == 50) = false := by simp; omega
      have v51 : (s.ch == 51) = false := by simp; omega
      have v52 : (s.ch == 52) = false := by simp; omega
      have v53 : (s.ch == 53) = false := by simp; omega
      have v54 : (s.ch == 54) = false := by simp; omega
      have v55 : (s.ch == 55) = true := by simpa using hv
      have HV := Lib.hid hv
      clear hv
      go_wp2_with fail
      go_meet
      exact ⟨rfl, rfl, rfl, H.out, Below.refl _ _⟩
    · obtain ⟨rfl, rfl, rfl, rfl⟩ := hh
      have v48 : (s.ch == 48) = false := by simp; omega
      have v49 : (s.ch == 49) = false := by simp; omega
      have v50 : (s.ch == 50) = false := by simp; omega
      have v51 : (s.ch == 51) = false := by simp; omega
      have v52 : (s.ch == 52) = false := by simp; omega
      have v53 : (s.ch == 53) = false := by simp; omega
      have v54 : (s.ch == 54) = false := by simp; omega
      have v55 : (s.ch == 55) = false := by simp; omega
      have v120 : (s.ch == 120) = true := by simpa using hv
      have HV := Lib.hid hv
      clear hv
      go_wp2_with (go_at_call 37; refine (next_any F src s _ H.out (by omega)).mono ?_; rintro e w2 ⟨rfl, hs2, hb2⟩; have H2 := Lib.hid hs2; have B2 := Lib.hid hb2; clear hs2 hb2)
      go_meet
      exact ⟨rfl, rfl, rfl, H2.out, B2.out⟩
    · obtain ⟨rfl, rfl, rfl, rfl⟩ := hh
      have v48 : (s.ch == 48) = false := by simp; omega
      have v49 : (s.ch == 49) = false := by simp; omega
      have v50 : (s.ch == 50) = false := by simp; omega
      have v51 : (s.ch == 51) = false := by simp; omega
      have v52 : (s.ch == 52) = false := by simp; omega
      have v53 : (s.ch == 53) = false := by simp; omega
      have v54 : (s.ch == 54) = false := by simp; omega
      have v55 : (s.ch == 55) = false := by simp; omega
      have v120 : (s.ch == 120) = false := by simp; omega
      have v117 : (s.ch == 117) = true := by simpa using hv
      have HV := Lib.hid hv
      clear hv
      go_wp2_with (go_at_call 37; refine (next_any F src s _ H.out (by omega)).mono ?_; rintro e w2 ⟨rfl, hs2, hb2⟩; have H2 := Lib.hid hs2; have B2 := Lib.hid hb2; clear hs2 hb2)
      go_meet
      exact ⟨rfl, rfl, rfl, H2.out, B2.out⟩
    · obtain ⟨rfl, rfl, rfl, rfl⟩ := hh
      have v48 : (s.ch == 48) = false := by simp; omega
      have v49 : (s.ch == 49) = false := by simp; omega
      have v50 : (s.ch == 50) = false := by simp; omega
      have v51 : (s.ch == 51) = false := by simp; omega
      have v52 : (s.ch == 52) = false := by simp; omega
      have v53 : (s.ch == 53) = false := by simp; omega
      have v54 : (s.ch == 54) = false := by simp; omega
      have v55 : (s.ch == 55) = false := by simp; omega
      have v120 : (s.ch == 120) = false := by simp; omega
      have v117 : (s.ch == 117) = false := by simp; omega
      have v85 : (s.ch == 85) = true := by simpa using hv
      have HV := Lib.hid hv
      clear hv
      go_wp2_with (go_at_call 37; refine (next_any F src s _ H.out (by omega)).mono ?_; rintro e w2 ⟨rfl, hs2, hb2⟩; have H2 := Lib.hid hs2; have B2 := Lib.hid hb2; clear hs2 hb2)
      go_meet
      exact ⟨rfl, rfl, rfl, H2.out, B2.out⟩
  case rest =>
    obtain ⟨rfl, rfl, rfl, hs0, hb0⟩ := hcut
    obtain ⟨s1, hs1⟩ : ∃ s1, s1 = (if k then nx src s else s) := ⟨_, rfl⟩
    rw [← hs1] at hs0
    have hkind := escN_some HN.out
    have hway1 : OnWay src s s1 := by
      rw [hs1]
      cases k
      · exact OnWay.refl HG.out
      · exact (OnWay.refl HG.out).next (by omega)
    have hgo1 : ∀ t r, EscL src b n 0 s1 t r → EscR src q s t (escOk m r) := by
      intro t r hl
      rw [hs1] at hl
      exact EscR.num HNS.out HN.out hl
    have hn8 : n ≤ 8 := hkind.2.2.1
    have hb816 := hkind.2.2.2.2
    have H0 := Lib.hid hs0
    have BB0 := Lib.hid hb0
    have HW1 := Lib.hid hway1
    have HGO1 := Lib.hid hgo1
    have hm1 : m ≤ 1114111 := escN_max HN.out
    have hlen := h_len
    clear hs0 hb0 hway1 hgo1 hs1 hkind H HN HNS HG ne1 ne2 ne3 ne4 ne5 ne6 ne7 ne8 ne9 d2
    rcases hb816 with rfl | rfl
    · simp only [Int.cast_ofNat_Int]
      go_wp2_with fail
      go_loopw [6, 10] (fun v6 v10 wr => ∃ (j x : Nat) (t : St), j ≤ n ∧ v6 = .int .i64 (j : Int) ∧ v10 = .int .u32 (x : Int) ∧ x < 8 ^ (n - j) ∧ OnWay src s t ∧ (∀ u r, EscL src 8 j x t u r → EscR src q s u (escOk m r)) ∧ SC F src t wr ∧ Below F.B w wr) (fun v6 _ _ => (intOf v6).toNat)
      case atStart => exact ⟨n, 0, s1, Nat.le_refl _, rfl, rfl, by simp, HW1.out, HGO1.out, H0.out, BB0.out⟩
      case round =>
        obtain ⟨j, x, t, hj, rfl, rfl, hx, hway, hgo, hs, hbw⟩ := hrel
        have d2 : wr.cell? ⟨F.gS, 2, none⟩ = some (.int .i32 t.ch) := by rw [hs.blkS.cell]; rfl
        have d3 : wr.cell? ⟨F.gS, 3, none⟩ = some (.int .i64 (t.off : Int)) := by rw [hs.blkS.cell]; rfl
        have hch := hs.ch
        have htl := hs.off
        have hdr := dv_range t.ch
        have hte : t.ec ≤ 1000001048576 := by have := hway.ec; omega
        have HS := Lib.hid hs
        have HBW := Lib.hid hbw
        have HWAY := Lib.hid hway
        have HGO := Lib.hid hgo
        clear hs hbw hway hgo H0 BB0 HW1 HGO1
        rcases j with _ | j
        · have hx2 : x < 4294967296 := by
            have : 8 ^ (n - 0) ≤ 16 ^ 8 := Nat.le_trans (Nat.pow_le_pow_left (by decide) _) (Nat.pow_le_pow_right (by decide) (by omega))
            omega
          have HR := Lib.hid (HGO.out t (some x) EscL.done)
          clear hx
          have h4 : (m < x) ∨ (x ≤ m ∧ 55296 ≤ x ∧ x < 57344) ∨ (x ≤ m ∧ x < 55296) ∨ (x ≤ m ∧ 57344 ≤ x) := by omega
          rcases h4 with h4 | ⟨h4, h5, h6⟩ | ⟨h4, h5⟩ | ⟨h4, h5⟩
          · have t1 : decide ((x : Int) > (m : Int)) = true := by simp; omega
            have HR2 : Hid (EscR src q s t false) := Lib.hid (by have := HR.out; rwa [show escOk m (some x) = false from decide_eq_false (by omega)] at this)
            go_wp2_with fail
            refine (err_any F src t _ _ _ HS.out (by omega)).mono ?_
            rintro e w2 ⟨rfl, hs2, hb2⟩
            have H2 := Lib.hid hs2
            have B2 := Lib.hid (HBW.out.trans hb2)
            clear hs2 hb2
            go_wp2_with fail
            go_ret
            exact ⟨t, false, HR2.out, HWAY.out, rfl, H2.out, B2.out⟩
          · have t1 : decide ((x : Int) > (m : Int)) = false := by simp; omega
            have t2 : decide (55296 ≤ (x : Int)) = true := by simp; omega
            have t3 : decide ((x : Int) < 57344) = true := by simp; omega
            have HR2 : Hid (EscR src q s t false) := Lib.hid (by have := HR.out; rwa [show escOk m (some x) = false from decide_eq_false (by omega)] at this)
            go_wp2_with fail
            refine (err_any F src t _ _ _ HS.out (by omega)).mono ?_
            rintro e w2 ⟨rfl, hs2, hb2⟩
            have H2 := Lib.hid hs2
            have B2 := Lib.hid (HBW.out.trans hb2)
            clear hs2 hb2
            go_wp2_with fail
            go_ret
            exact ⟨t, false, HR2.out, HWAY.out, rfl, H2.out, B2.out⟩
          · have t1 : decide ((x : Int) > (m : Int)) = false := by simp; omega
            have t2 : decide (55296 ≤ (x : Int)) = false := by simp; omega
            have HR2 : Hid (EscR src q s t true) := Lib.hid (by have := HR.out; rwa [show escOk m (some x) = true from decide_eq_true (by omega)] at this)
            go_wp2_with fail
            go_ret
            exact ⟨t, true, HR2.out, HWAY.out, rfl, HS.out, HBW.out⟩
          · have HR2 : Hid (EscR src q s t true) := Lib.hid (by have := HR.out; rwa [show escOk m (some x) = true from decide_eq_true (by omega)] at this)
            have h4i : (x : Int) ≤ (m : Int) := by omega
            have h5i : (57344 : Int) ≤ (x : Int) := by omega
            have h6i : (55296 : Int) ≤ (x : Int) := by omega
            clear h4 h5
            go_wp2_with fail
            go_ret
            exact ⟨t, true, HR2.out, HWAY.out, rfl, HS.out, HBW.out⟩
        · have hx2 : x < 268435456 := by
            have : 8 ^ (n - (j + 1)) ≤ 16 ^ 7 := Nat.le_trans (Nat.pow_le_pow_left (by decide) _) (Nat.pow_le_pow_right (by decide) (by omega))
            omega
          have hpow : 8 ^ (n - j) = 8 ^ (n - (j + 1)) * 8 := by
            rw [show n - j = (n - (j + 1)) + 1 by omega, Nat.pow_succ]
          have HDV := Lib.hid (digitVal_any t.ch wr (by omega) (by omega))
          by_cases hd : dv t.ch < 8
          · have t1 : decide (dv t.ch ≥ 8) = false := by simp; omega
            have hxx : x * 8 + (dv t.ch).toNat < 8 ^ (n - j) := by
              rw [hpow]
              omega
            have hdx := dv_low t.ch (by omega)
            have HNW := Lib.hid (HWAY.out.next (by omega))
            have HNG := Lib.hid (fun u r (hu : EscL src 8 j (x * 8 + (dv t.ch).toNat) (nx src t) u r) => HGO.out u r (EscL.step hd hu))
            have HXX := Lib.hid hxx
            obtain ⟨dd, hdd⟩ : ∃ dd : Nat, dv t.ch = dd := ⟨(dv t.ch).toNat, by omega⟩
            rw [hdd] at HDV t1 hd hdr HNG HXX
            rw [Int.toNat_natCast] at HNG HXX
            clear hx hxx hpow hdx hdd
            go_wp2_with (go_at_call 64; refine HDV.out.mono ?_; rintro e w' ⟨rfl, rfl⟩)
            refine (next_any F src t _ HS.out (by omega)).mono ?_
            rintro e w2 ⟨rfl, hs2, hb2⟩
            have H2 := Lib.hid hs2
            have B2 := Lib.hid (HBW.out.trans hb2)
            clear hs2 hb2
            go_wp2_with fail
            go_roundw
            case rel => exact ⟨j, x * 8 + dd, nx src t, by omega, by go_num, by go_num, HXX.out, HNW.out, HNG.out, H2.out, B2.out⟩
            case measure => simp [intOf]
          · have t1 : decide (dv t.ch ≥ 8) = true := by simp; omega
            have HR := Lib.hid (HGO.out t none (EscL.bad (by omega)))
            obtain ⟨dd, hdd⟩ : ∃ dd : Nat, dv t.ch = dd := ⟨(dv t.ch).toNat, by omega⟩
            rw [hdd] at HDV t1 hd hdr
            clear hx hpow hdd
            have hb5 : Below wr.heap.size wr (wr.alloc (.cells #[.iface 21 (.int .i32 t.ch)] 20)).drew := ((Below.refl _ _).alloc (Nat.le_refl _) _).drew
            obtain ⟨S, hS⟩ := spf_any I ⟨#[105, 108, 108, 101, 103, 97, 108, 32, 99, 104, 97, 114, 97, 99, 116, 101, 114, 32, 37, 35, 85, 32, 105, 110, 32, 101, 115, 99, 97, 112, 101, 32, 115, 101, 113, 117, 101, 110, 99, 101]⟩ wr.heap.size t.ch (wr.alloc (.cells #[.iface 21 (.int .i32 t.ch)] 20)) (by rw [show (wr.alloc (.cells #[.iface 21 (.int .i32 t.ch)] 20)).tape = wr.tape from rfl, HBW.out.tape]; exact HF.out) (by rw [(Blk.new wr _ _).cell]; rfl)
            have HS5 := Lib.hid (HS.out.below hb5)
            have B5 := Lib.hid (HBW.out.trans (hb5.mono (by have := HS.out.hS; have := HS.out.blkS.lt; omega)))
            have d25 : (wr.alloc (.cells #[.iface 21 (.int .i32 t.ch)] 20)).drew.cell? ⟨F.gS, 2, none⟩ = some (.int .i32 t.ch) := by rw [HS5.out.blkS.cell]; rfl
            have d35 : (wr.alloc (.cells #[.iface 21 (.int .i32 t.ch)] 20)).drew.cell? ⟨F.gS, 3, none⟩ = some (.int .i64 (t.off : Int)) := by rw [HS5.out.blkS.cell]; rfl
            have hneg : decide (t.ch < 0) = true ∨ decide (t.ch < 0) = false := by cases decide (t.ch < 0) <;> simp
            clear hb5 HS HBW
            rcases hneg with tn | tn
            all_goals
              go_wp2_with (go_at_call 64; refine HDV.out.mono ?_; rintro e w' ⟨rfl, rfl⟩)
              refine (err_any F src t _ _ _ HS5.out (by omega)).mono ?_
              rintro e w2 ⟨rfl, hs2, hb2⟩
              have H2 := Lib.hid hs2
              have B2 := Lib.hid (B5.out.trans hb2)
              clear hs2 hb2
              go_wp2_with fail
              go_ret
              exact ⟨t, false, HR.out, HWAY.out, rfl, H2.out, B2.out⟩
    · simp only [Int.cast_ofNat_Int]
      go_wp2_with fail
      go_loopw [6, 10] (fun v6 v10 wr => ∃ (j x : Nat) (t : St), j ≤ n ∧ v6 = .int .i64 (j : Int) ∧ v10 = .int .u32 (x : Int) ∧ x < 16 ^ (n - j) ∧ OnWay src s t ∧ (∀ u r, EscL src 16 j x t u r → EscR src q s u (escOk m r)) ∧ SC F src t wr ∧ Below F.B w wr) (fun v6 _ _ => (intOf v6).toNat)
      case atStart => exact ⟨n, 0, s1, Nat.le_refl _, rfl, rfl, by simp, HW1.out, HGO1.out, H0.out, BB0.out⟩
      case round =>
        obtain ⟨j, x, t, hj, rfl, rfl, hx, hway, hgo, hs, hbw⟩ := hrel
        have d2 : wr.cell? ⟨F.gS, 2, none⟩ = some (.int .i32 t.ch) := by rw [hs.blkS.cell]; rfl
        have d3 : wr.cell? ⟨F.gS, 3, none⟩ = some (.int .i64 (t.off : Int)) := by rw [hs.blkS.cell]; rfl
        have hch := hs.ch
        have htl := hs.off
        have hdr := dv_range t.ch
        have hte : t.ec ≤ 1000001048576 := by have := hway.ec; omega
        have HS := Lib.hid hs
        have HBW := Lib.hid hbw
        have HWAY := Lib.hid hway
        have HGO := Lib.hid hgo
        clear hs hbw hway hgo H0 BB0 HW1 HGO1
        rcases j with _ | j
        · have hx2 : x < 4294967296 := by
            have : 16 ^ (n - 0) ≤ 16 ^ 8 := Nat.le_trans (Nat.pow_le_pow_left (by decide) _) (Nat.pow_le_pow_right (by decide) (by omega))
            omega
          have HR := Lib.hid (HGO.out t (some x) EscL.done)
          clear hx
          have h4 : (m < x) ∨ (x ≤ m ∧ 55296 ≤ x ∧ x < 57344) ∨ (x ≤ m ∧ x < 55296) ∨ (x ≤ m ∧ 57344 ≤ x) := by omega
          rcases h4 with h4 | ⟨h4, h5, h6⟩ | ⟨h4, h5⟩ | ⟨h4, h5⟩
          · have t1 : decide ((x : Int) > (m : Int)) = true := by simp; omega
            have HR2 : Hid (EscR src q s t false) := Lib.hid (by have := HR.out; rwa [show escOk m (some x) = false from decide_eq_false (by omega)] at this)
            go_wp2_with fail
            refine (err_any F src t _ _ _ HS.out (by omega)).mono ?_
            rintro e w2 ⟨rfl, hs2, hb2⟩
            have H2 := Lib.hid hs2
            have B2 := Lib.hid (HBW.out.trans hb2)
            clear hs2 hb2
            go_wp2_with fail
            go_ret
            exact ⟨t, false, HR2.out, HWAY.out, rfl, H2.out, B2.out⟩
          · have t1 : decide ((x : Int) > (m : Int)) = false := by simp; omega
            have t2 : decide (55296 ≤ (x : Int)) = true := by simp; omega
            have t3 : decide ((x : Int) < 57344) = true := by simp; omega
            have HR2 : Hid (EscR src q s t false) := Lib.hid (by have := HR.out; rwa [show escOk m (some x) = false from decide_eq_false (by omega)] at this)
            go_wp2_with fail
            refine (err_any F src t _ _ _ HS.out (by omega)).mono ?_
            rintro e w2 ⟨rfl, hs2, hb2⟩
            have H2 := Lib.hid hs2
            have B2 := Lib.hid (HBW.out.trans hb2)
            clear hs2 hb2
            go_wp2_with fail
            go_ret
            exact ⟨t, false, HR2.out, HWAY.out, rfl, H2.out, B2.out⟩
          · have t1 : decide ((x : Int) > (m : Int)) = false := by simp; omega
            have t2 : decide (55296 ≤ (x : Int)) = false := by simp; omega
            have HR2 : Hid (EscR src q s t true) := Lib.hid (by have := HR.out; rwa [show escOk m (some x) = true from decide_eq_true (by omega)] at this)
            go_wp2_with fail
            go_ret
            exact ⟨t, true, HR2.out, HWAY.out, rfl, HS.out, HBW.out⟩
          · have HR2 : Hid (EscR src q s t true) := Lib.hid (by have := HR.out; rwa [show escOk m (some x) = true from decide_eq_true (by omega)] at this)
            have h4i : (x : Int) ≤ (m : Int) := by omega
            have h5i : (57344 : Int) ≤ (x : Int) := by omega
            have h6i : (55296 : Int) ≤ (x : Int) := by omega
            clear h4 h5
            go_wp2_with fail
            go_ret
            exact ⟨t, true, HR2.out, HWAY.out, rfl, HS.out, HBW.out⟩
        · have hx2 : x < 268435456 := by
            have : 16 ^ (n - (j + 1)) ≤ 16 ^ 7 := Nat.le_trans (Nat.pow_le_pow_left (by decide) _) (Nat.pow_le_pow_right (by decide) (by omega))
            omega
          have hpow : 16 ^ (n - j) = 16 ^ (n - (j + 1)) * 16 := by
            rw [show n - j = (n - (j + 1)) + 1 by omega, Nat.pow_succ]
          have HDV := Lib.hid (digitVal_any t.ch wr (by omega) (by omega))
          by_cases hd : dv t.ch < 16
          · have t1 : decide (dv t.ch ≥ 16) = false := by simp; omega
            have hxx : x * 16 + (dv t.ch).toNat < 16 ^ (n - j) := by
              rw [hpow]
              omega
            have hdx := dv_low t.ch (by omega)
            have HNW := Lib.hid (HWAY.out.next (by omega))
            have HNG := Lib.hid (fun u r (hu : EscL src 16 j (x * 16 + (dv t.ch).toNat) (nx src t) u r) => HGO.out u r (EscL.step hd hu))
            have HXX := Lib.hid hxx
            obtain ⟨dd, hdd⟩ : ∃ dd : Nat, dv t.ch = dd := ⟨(dv t.ch).toNat, by omega⟩
            rw [hdd] at HDV t1 hd hdr HNG HXX
            rw [Int.toNat_natCast] at HNG HXX
            clear hx hxx hpow hdx hdd
            go_wp2_with (go_at_call 64; refine HDV.out.mono ?_; rintro e w' ⟨rfl, rfl⟩)
            refine (next_any F src t _ HS.out (by omega)).mono ?_
            rintro e w2 ⟨rfl, hs2, hb2⟩
            have H2 := Lib.hid hs2
            have B2 := Lib.hid (HBW.out.trans hb2)
            clear hs2 hb2
            go_wp2_with fail
            go_roundw
            case rel => exact ⟨j, x * 16 + dd, nx src t, by omega, by go_num, by go_num, HXX.out, HNW.out, HNG.out, H2.out, B2.out⟩
            case measure => simp [intOf]
          · have t1 : decide (dv t.ch ≥ 16) = true := by simp; omega
            have HR := Lib.hid (HGO.out t none (EscL.bad (by omega)))
            obtain ⟨dd, hdd⟩ : ∃ dd : Nat, dv t.ch = dd := ⟨(dv t.ch).toNat, by omega⟩
            rw [hdd] at HDV t1 hd hdr
            clear hx hpow hdd
            have hb5 : Below wr.heap.size wr (wr.alloc (.cells #[.iface 21 (.int .i32 t.ch)] 20)).drew := ((Below.refl _ _).alloc (Nat.le_refl _) _).drew
            obtain ⟨S, hS⟩ := spf_any I ⟨#[105, 108, 108, 101, 103, 97, 108, 32, 99, 104, 97, 114, 97, 99, 116, 101, 114, 32, 37, 35, 85, 32, 105, 110, 32, 101, 115, 99, 97, 112, 101, 32, 115, 101, 113, 117, 101, 110, 99, 101]⟩ wr.heap.size t.ch (wr.alloc (.cells #[.iface 21 (.int .i32 t.ch)] 20)) (by rw [show (wr.alloc (.cells #[.iface 21 (.int .i32 t.ch)] 20)).tape = wr.tape from rfl, HBW.out.tape]; exact HF.out) (by rw [(Blk.new wr _ _).cell]; rfl)
            have HS5 := Lib.hid (HS.out.below hb5)
            have B5 := Lib.hid (HBW.out.trans (hb5.mono (by have := HS.out.hS; have := HS.out.blkS.lt; omega)))
            have d25 : (wr.alloc (.cells #[.iface 21 (.int .i32 t.ch)] 20)).drew.cell? ⟨F.gS, 2, none⟩ = some (.int .i32 t.ch) := by rw [HS5.out.blkS.cell]; rfl
            have d35 : (wr.alloc (.cells #[.iface 21 (.int .i32 t.ch)] 20)).drew.cell? ⟨F.gS, 3, none⟩ = some (.int .i64 (t.off : Int)) := by rw [HS5.out.blkS.cell]; rfl
            have hneg : decide (t.ch < 0) = true ∨ decide (t.ch < 0) = false := by cases decide (t.ch < 0) <;> simp
            clear hb5 HS HBW
            rcases hneg with tn | tn
            all_goals
              go_wp2_with (go_at_call 64; refine HDV.out.mono ?_; rintro e w' ⟨rfl, rfl⟩)
              refine (err_any F src t _ _ _ HS5.out (by omega)).mono ?_
              rintro e w2 ⟨rfl, hs2, hb2⟩
              have H2 := Lib.hid hs2
              have B2 := Lib.hid (B5.out.trans hb2)
              clear hs2 hb2
              go_wp2_with fail
              go_ret
              exact ⟨t, false, HR.out, HWAY.out, rfl, H2.out, B2.out⟩
set_option maxHeartbeats 4000000 in
theorem esc_simple (F : Fix) (src : List UInt8) (q : Int) (s : St) (w : World) (hq : 0 ≤ q) (hq2 : q < 128) (h : SC F src s w) (hg : Good src s) (hec : s.ec ≤ 1000000000000) (hns : escSimple q s.ch = true) :
    Calls Tryf.prog 57 #[.pointer (some ⟨F.gS, 0, none⟩), .int .i32 q] w (EscPost F src q s w) := by
  have d2 : w.cell? ⟨F.gS, 2, none⟩ = some (.int .i32 s.ch) := by rw [h.blkS.cell]; rfl
  have d3 : w.cell? ⟨F.gS, 3, none⟩ = some (.int .i64 (s.off : Int)) := by rw [h.blkS.cell]; rfl
  have hx : s.ch = 97 ∨ s.ch = 98 ∨ s.ch = 102 ∨ s.ch = 110 ∨ s.ch = 114 ∨ s.ch = 116 ∨ s.ch = 118 ∨ s.ch = 92 ∨ s.ch = q := of_decide_eq_true hns
  have HR := Lib.hid (EscR.simple (src := src) hns)
  have HW := Lib.hid ((OnWay.refl hg).next (escSimple_pos hq hns))
  have H := Lib.hid h
  clear h hg hns
  by_cases k97 : s.ch = 97
  · have v97 : (s.ch == 97) = true := by simpa using k97
    clear hx k97
    go_enter Tryf.func57, Tryf.ntmps57
    go_wp2_with fail
    refine (next_any F src s _ H.out (by omega)).mono ?_
    rintro e w2 ⟨rfl, hs2, hb2⟩
    have H2 := Lib.hid hs2
    have B2 := Lib.hid hb2
    clear hs2 hb2
    go_wp2_with fail
    go_ret
    exact ⟨nx src s, true, HR.out, HW.out, rfl, H2.out, B2.out⟩
  have v97 : (s.ch == 97) = false := by simpa using k97
  by_cases k98 : s.ch = 98
  · have v98 : (s.ch == 98) = true := by simpa using k98
    clear hx k98
    go_enter Tryf.func57, Tryf.ntmps57
    go_wp2_with fail
    refine (next_any F src s _ H.out (by omega)).mono ?_
    rintro e w2 ⟨rfl, hs2, hb2⟩
    have H2 := Lib.hid hs2
    have B2 := Lib.hid hb2
    clear hs2 hb2
    go_wp2_with fail
    go_ret
    exact ⟨nx src s, true, HR.out, HW.out, rfl, H2.out, B2.out⟩
  have v98 : (s.ch == 98) = false := by simpa using k98
  by_cases k102 : s.ch = 102
  · have v102 : (s.ch == 102) = true := by simpa using k102
    clear hx k102
    go_enter Tryf.func57, Tryf.ntmps57
    go_wp2_with fail
    refine (next_any F src s _ H.out (by omega)).mono ?_
    rintro e w2 ⟨rfl, hs2, hb2⟩
    have H2 := Lib.hid hs2
    have B2 := Lib.hid hb2
    clear hs2 hb2
    go_wp2_with fail
    go_ret
    exact ⟨nx src s, true, HR.out, HW.out, rfl, H2.out, B2.out⟩
  have v102 : (s.ch == 102) = false := by simpa using k102
  by_cases k110 : s.ch = 110
  · have v110 : (s.ch == 110) = true := by simpa using k110
    clear hx k110
    go_enter Tryf.func57, Tryf.ntmps57
    go_wp2_with fail
    refine (next_any F src s _ H.out (by omega)).mono ?_
    rintro e w2 ⟨rfl, hs2, hb2⟩
    have H2 := Lib.hid hs2
    have B2 := Lib.hid hb2
    clear hs2 hb2
    go_wp2_with fail
    go_ret
    exact ⟨nx src s, true, HR.out, HW.out, rfl, H2.out, B2.out⟩
  have v110 : (s.ch == 110) = false := by simpa using k110
  by_cases k114 : s.ch = 114
  · have v114 : (s.ch == 114) = true := by simpa using k114
    clear hx k114
    go_enter Tryf.func57, Tryf.ntmps57
    go_wp2_with fail
    refine (next_any F src s _ H.out (by omega)).mono ?_
    rintro e w2 ⟨rfl, hs2, hb2⟩
    have H2 := Lib.hid hs2
    have B2 := Lib.hid hb2
    clear hs2 hb2
    go_wp2_with fail
    go_ret
    exact ⟨nx src s, true, HR.out, HW.out, rfl, H2.out, B2.out⟩
  have v114 : (s.ch == 114) = false := by simpa using k114
  by_cases k116 : s.ch = 116
  · have v116 : (s.ch == 116) = true := by simpa using k116
    clear hx k116
    go_enter Tryf.func57, Tryf.ntmps57
    go_wp2_with fail
    refine (next_any F src s _ H.out (by omega)).mono ?_
    rintro e w2 ⟨rfl, hs2, hb2⟩
    have H2 := Lib.hid hs2
    have B2 := Lib.hid hb2
    clear hs2 hb2
    go_wp2_with fail
    go_ret
    exact ⟨nx src s, true, HR.out, HW.out, rfl, H2.out, B2.out⟩
  have v116 : (s.ch == 116) = false := by simpa using k116
  by_cases k118 : s.ch = 118
  · have v118 : (s.ch == 118) = true := by simpa using k118
    clear hx k118
    go_enter Tryf.func57, Tryf.ntmps57
    go_wp2_with fail
    refine (next_any F src s _ H.out (by omega)).mono ?_
    rintro e w2 ⟨rfl, hs2, hb2⟩
    have H2 := Lib.hid hs2
    have B2 := Lib.hid hb2
    clear hs2 hb2
    go_wp2_with fail
    go_ret
    exact ⟨nx src s, true, HR.out, HW.out, rfl, H2.out, B2.out⟩
  have v118 : (s.ch == 118) = false := by simpa using k118
  by_cases k92 : s.ch = 92
  · have v92 : (s.ch == 92) = true := by simpa using k92
    clear hx k92
    go_enter Tryf.func57, Tryf.ntmps57
    go_wp2_with fail
    refine (next_any F src s _ H.out (by omega)).mono ?_
    rintro e w2 ⟨rfl, hs2, hb2⟩
    have H2 := Lib.hid hs2
    have B2 := Lib.hid hb2
    clear hs2 hb2
    go_wp2_with fail
    go_ret
    exact ⟨nx src s, true, HR.out, HW.out, rfl, H2.out, B2.out⟩
  have v92 : (s.ch == 92) = false := by simpa using k92
  have kq : s.ch = q := by omega
  have vq : (s.ch == q) = true := by simpa using kq
  clear hx kq k97 k98 k102 k110 k114 k116 k118 k92
  go_enter Tryf.func57, Tryf.ntmps57
  go_wp2_with fail
  refine (next_any F src s _ H.out (by omega)).mono ?_
  rintro e w2 ⟨rfl, hs2, hb2⟩
  have H2 := Lib.hid hs2
  have B2 := Lib.hid hb2
  clear hs2 hb2
  go_wp2_with fail
  go_ret
  exact ⟨nx src s, true, HR.out, HW.out, rfl, H2.out, B2.out⟩

theorem escN_none {c : Int} (h : escN c = none) : ¬ (48 ≤ c ∧ c ≤ 55) ∧ c ≠ 120 ∧ c ≠ 117 ∧ c ≠ 85 := by
  unfold escN at h
  split at h
  · cases h
  · split at h
    · cases h
    · split at h
      · cases h
      · split at h
        · cases h
        · omega
set_option maxHeartbeats 4000000 in
theorem esc_bad (F : Fix) (src : List UInt8) (q : Int) (s : St) (w : World) (hq : 0 ≤ q) (hq2 : q < 128) (h : SC F src s w) (hg : Good src s) (hec : s.ec ≤ 1000000000000) (hns : escSimple q s.ch = false) (hN : escN s.ch = none) :
    Calls Tryf.prog 57 #[.pointer (some ⟨F.gS, 0, none⟩), .int .i32 q] w (EscPost F src q s w) := by
  have d2 : w.cell? ⟨F.gS, 2, none⟩ = some (.int .i32 s.ch) := by rw [h.blkS.cell]; rfl
  have d3 : w.cell? ⟨F.gS, 3, none⟩ = some (.int .i64 (s.off : Int)) := by rw [h.blkS.cell]; rfl
  have hx : ¬ (s.ch = 97 ∨ s.ch = 98 ∨ s.ch = 102 ∨ s.ch = 110 ∨ s.ch = 114 ∨ s.ch = 116 ∨ s.ch = 118 ∨ s.ch = 92 ∨ s.ch = q) := of_decide_eq_false hns
  have hy := escN_none hN
  have HR := Lib.hid (EscR.bad (src := src) hns hN)
  have HW := Lib.hid (OnWay.refl hg)
  have H := Lib.hid h
  have v97 : (s.ch == 97) = false := by simp; omega
  have v98 : (s.ch == 98) = false := by simp; omega
  have v102 : (s.ch == 102) = false := by simp; omega
  have v110 : (s.ch == 110) = false := by simp; omega
  have v114 : (s.ch == 114) = false := by simp; omega
  have v116 : (s.ch == 116) = false := by simp; omega
  have v118 : (s.ch == 118) = false := by simp; omega
  have v92 : (s.ch == 92) = false := by simp; omega
  have vq : (s.ch == q) = false := by simp; omega
  have v48 : (s.ch == 48) = false := by simp; omega
  have v49 : (s.ch == 49) = false := by simp; omega
  have v50 : (s.ch == 50) = false := by simp; omega
  have v51 : (s.ch == 51) = false := by simp; omega
  have v52 : (s.ch == 52) = false := by simp; omega
  have v53 : (s.ch == 53) = false := by simp; omega
  have v54 : (s.ch == 54) = false := by simp; omega
  have v55 : (s.ch == 55) = false := by simp; omega
  have v120 : (s.ch == 120) = false := by simp; omega
  have v117 : (s.ch == 117) = false := by simp; omega
  have v85 : (s.ch == 85) = false := by simp; omega
  have hneg : decide (s.ch < 0) = true ∨ decide (s.ch < 0) = false := by cases decide (s.ch < 0) <;> simp
  clear h hg hns hx hy hN
  rcases hneg with tn | tn
  all_goals
    go_enter Tryf.func57, Tryf.ntmps57
    go_wp2_with fail
    refine (err_any F src s _ _ _ H.out (by omega)).mono ?_
    rintro e w2 ⟨rfl, hs2, hb2⟩
    have H2 := Lib.hid hs2
    have B2 := Lib.hid hb2
    clear hs2 hb2
    go_wp2_with fail
    go_ret
    exact ⟨s, false, HR.out, HW.out, rfl, H2.out, B2.out⟩
theorem escape_any (I : Go.Stop.Interp) (F : Fix) (src : List UInt8) (q : Int) (s : St) (w : World) (hF : I.answers w.tape) (hq : 0 ≤ q) (hq2 : q < 128) (h : SC F src s w) (hg : Good src s) (hec : s.ec ≤ 1000000000000) :
    Calls Tryf.prog 57 #[.pointer (some ⟨F.gS, 0, none⟩), .int .i32 q] w (EscPost F src q s w) := by
  rcases hs : escSimple q s.ch with _ | _
  · rcases hN : escN s.ch with _ | ⟨n, b, m, k⟩
    · exact esc_bad F src q s w hq hq2 h hg hec hs hN
    · exact esc_num I F src q s w hF hq hq2 h hg hec hs n b m k hN
  · exact esc_simple F src q s w hq hq2 h hg hec hs
end Go.Proofs.YtamfekpcoppbgaaFmt
