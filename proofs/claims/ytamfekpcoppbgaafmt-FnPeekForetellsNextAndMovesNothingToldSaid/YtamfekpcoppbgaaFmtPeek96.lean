/-
  FnPeekForetellsNextAndMovesNothing, walked. Conditions: none (beyond 65536 bytes the law says true at once).
-/
import Derived.Test.YtamfekpcoppbgaaFmtMk96
namespace Go.Proofs.YtamfekpcoppbgaaFmt
open Go.RowKit
set_option maxRecDepth 100000
set_option linter.unusedVariables false

set_option maxHeartbeats 400000 in
theorem bytes_peek (oA : Option Addr) (n cap : Nat) (w : World) (hn : n ≤ 9223372036854775807) :
    Calls Tryf.prog 18 #[.slice oA n cap] w fun e w' => e = .returned (.bool (decide (n ≤ 1048576))) ∧ w = w' := by
  by_cases h : n ≤ 1048576
  · have t0 : decide ((n : Int) > 1048576) = false := by simp; omega
    have e0 : decide (n ≤ 1048576) = true := by simpa using h
    rw [e0]
    go_enter Tryf.func18, Tryf.ntmps18
    go_wp2
    go_ret
    exact ⟨rfl, rfl⟩
  · have t0 : decide ((n : Int) > 1048576) = true := by simp; omega
    have e0 : decide (n ≤ 1048576) = false := by simpa using h
    rw [e0]
    go_enter Tryf.func18, Tryf.ntmps18
    go_wp2
    go_ret
    exact ⟨rfl, rfl⟩

set_option maxHeartbeats 4000000 in
theorem peek_law (oA : Option Addr) (cap : Nat) (src : List UInt8) (w : World) (hcap : src.length ≤ cap) (hmax : cap ≤ maxLen) (hsrc : SrcAt w w.heap.size oA src) (hnil : oA = none → src = [] ∧ cap = 0)
    (htab : Lib.Utf8Tabs 4 5 w) (hg : 4 < w.heap.size ∧ 5 < w.heap.size) :
    Calls Tryf.prog 5 #[.slice oA src.length cap] w fun e w' => e = .returned (.bool true) ∧ Below w.heap.size w w' := by
  have hlen : src.length ≤ 9223372036854775807 := by simp only [maxLen] at hmax; omega
  have HB := fun W => bytes_peek oA src.length cap W hlen
  by_cases hbig : src.length ≤ 65536
  rotate_left
  · have t1 : decide ((src.length : Int) > 65536) = true := by simp; omega
    clear hsrc htab
    go_enter Tryf.func5, Tryf.ntmps5
    by_cases h2 : src.length ≤ 1048576
    · have e0 : decide (src.length ≤ 1048576) = true := by simpa using h2
      rw [e0] at HB
      clear e0 h2 hbig
      go_wp2_with (go_at_call 18; refine (HB _).mono ?_; rintro e w2 ⟨rfl, rfl⟩)
      go_ret
      exact ⟨rfl, Below.refl _ _⟩
    · have e0 : decide (src.length ≤ 1048576) = false := by simpa using h2
      rw [e0] at HB
      clear e0 h2 hbig
      go_wp2_with (go_at_call 18; refine (HB _).mono ?_; rintro e w2 ⟨rfl, rfl⟩)
      go_ret
      exact ⟨rfl, Below.refl _ _⟩
  have e0 : decide (src.length ≤ 1048576) = true := by simp; omega
  rw [e0] at HB
  clear e0
  have t1 : decide ((src.length : Int) > 65536) = false := by simp; omega
  have HC := Lib.hid (clone_any oA cap src w hsrc hnil (by omega))
  have HT := Lib.hid htab
  clear hsrc htab hnil
  go_enter Tryf.func5, Tryf.ntmps5
  go_wp2_with (go_at_call 18; refine (HB _).mono ?_; rintro e w2 ⟨rfl, rfl⟩)
  refine HC.out.mono ?_
  rintro e w1 ⟨oB, cap1, rfl, hcap1, hsrc1, _, hb1⟩
  have hsz1 := hb1.size
  have htab1 := tabs_keep HT.out hg.1 hg.2 hb1.block
  have HM := Lib.hid (mk_any oB cap1 src w1 hsrc1 htab1 (by omega) (by omega) hcap1)
  have B1 := Lib.hid hb1
  clear hsrc1 htab1 hb1 HC HT HB t1
  go_wp2_with fail
  refine HM.out.mono ?_
  rintro e w2 ⟨F, rfl, hFB, hFo, hFc, _, hs2, hb2⟩
  subst hFo hFc
  have hB2 : Below w.heap.size w w2 := B1.out.trans (hb2.mono hsz1)
  have hFB0 : w.heap.size ≤ F.B := by omega
  have H2 := Lib.hid hs2
  have B2 := Lib.hid hB2
  clear hs2 hb2 hB2 HM B1 hFB
  go_wp2_with fail
  go_loopw [6] (fun i wr => ∃ (j : Nat) (s : St), i = .int .i64 j ∧ Along src j s ∧ SC F src s wr ∧ Below w.heap.size w wr) (fun i _ => src.length + 1 - (intOf i).toNat)
  case atStart => exact ⟨0, _, rfl, Along.first src, H2.out, B2.out⟩
  case round =>
    obtain ⟨j, s, rfl, hal, hs, hb⟩ := hrel
    obtain ⟨hend, hj, hj2⟩ := hal.at_end
    have tl : decide ((j : Int) ≤ (src.length : Int)) = true := by simpa using hj
    have hrd := hs.rd
    have hec : s.ec ≤ 4611686018427387904 := by have := hal.ec; omega
    have hz1 := hs.ch
    have HA := Lib.hid hal
    have HS := Lib.hid hs
    have HX := Lib.hid hb
    clear hal hs hb H2 B2
    by_cases hch : s.ch = -1
    · have tc : (s.ch != -1) = false := by simpa using hch
      have te : (s.ch == -1) = true := by simpa using hch
      have hp0 : pk src s = 0 := by
        rcases HA.out.good with ⟨h1, h2, h3⟩ | ⟨h1, h2, h3⟩
        · omega
        · simp [pk, h2]
      have HP := Lib.hid hp0
      clear hch hend hj2 hp0
      go_wp2_with (go_at_call 19; refine (zzch_any F src s _ HS.out).mono ?_; rintro e w' ⟨rfl, rfl⟩)
      refine (zzpeek_any F src s _ HS.out).mono ?_
      rintro e w3 ⟨rfl, hs3, hb3⟩
      rw [HP.out]
      have B3 := Lib.hid hb3
      clear hs3 hb3
      go_wp2
      go_ret
      exact ⟨rfl, HX.out.trans (B3.out.mono hFB0)⟩
    · have tc : (s.ch != -1) = true := by simpa using hch
      have HAN := Lib.hid (HA.out.next hch)
      have HPT := Lib.hid (peek_tells (src := src) hrd)
      have hjl := hj2 hch
      have tp : ((pk src s : Int) != (pk src s : Int)) = false := by simp
      have tof : ((s.off : Int) != (s.off : Int)) = false := by simp
      have tcc : (s.ch != s.ch) = false := by simp
      have hpk : pk src s < 256 := by
        unfold pk
        split
        · exact bt_lt _ _
        · omega
      clear hend hj2 hch
      go_wp2_with first | (go_at_call 19; refine (zzch_any F src s _ HS.out).mono ?_; rintro e w' ⟨rfl, rfl⟩) | (go_at_call 20; refine (zzoff_any F src s _ HS.out).mono ?_; rintro e w' ⟨rfl, rfl⟩)
      refine (zzpeek_any F src s _ HS.out).mono ?_
      rintro e w3 ⟨rfl, hs3, hb3⟩
      have H3 := Lib.hid hs3
      have B3 := Lib.hid (HX.out.trans (hb3.mono hFB0))
      clear hs3 hb3 HS HX
      go_wp2_with fail
      refine (zzpeek_any F src s _ H3.out).mono ?_
      rintro e w4 ⟨rfl, hs4, hb4⟩
      have H4 := Lib.hid hs4
      have B4 := Lib.hid (B3.out.trans (hb4.mono hFB0))
      clear hs4 hb4 H3 B3
      go_wp2_with first | (go_at_call 19; refine (zzch_any F src s _ H4.out).mono ?_; rintro e w' ⟨rfl, rfl⟩) | (go_at_call 20; refine (zzoff_any F src s _ H4.out).mono ?_; rintro e w' ⟨rfl, rfl⟩)
      refine (zznext_any F src s _ H4.out hec).mono ?_
      rintro e w5 ⟨rfl, hs5, hb5⟩
      have hch5 := hs5.ch
      have hoff5 := hs5.off
      have H5 := Lib.hid hs5
      have B5 := Lib.hid (B4.out.trans (hb5.mono hFB0))
      clear hs5 hb5 H4 B4
      by_cases hc5 : (nx src s).ch = -1
      · have te : ((nx src s).ch == -1) = true := by simpa using hc5
        have hp0 := HPT.out.1 hc5
        have tz : ((pk src s : Int) != 0) = false := by simp; omega
        have HZ := Lib.hid hp0
        clear hp0 hc5
        go_wp2_with first | (go_at_call 19; refine (zzch_any F src (nx src s) _ H5.out).mono ?_; rintro e w' ⟨rfl, rfl⟩) | (go_at_call 20; refine (zzoff_any F src (nx src s) _ H5.out).mono ?_; rintro e w' ⟨rfl, rfl⟩)
        go_roundw
        case rel => exact ⟨j + 1, nx src s, by go_num, HAN.out, H5.out, B5.out⟩
        case measure => simp [intOf]; omega
      · have te : ((nx src s).ch == -1) = false := by simpa using hc5
        obtain ⟨ho, hlt, hpe⟩ := HPT.out.2 hc5
        obtain ⟨b, o, eo, hbB, hcc⟩ := H5.out.srcAt.at_ (by omega)
        have hcell : w5.cell? ⟨b, o + (nx src s).off, none⟩ = some (.int .u8 (pk src s : Int)) := by
          have := hcc s.rd hlt
          rw [ho, this, hpe]
          simp [bt, hlt, List.getD]
        have t1 : decide (((nx src s).off : Int) < 0) = false := by simp
        have t2 : decide (((nx src s).off : Int) ≥ (src.length : Int)) = false := by simp; omega
        have hlt2 : (nx src s).off < src.length := by omega
        rw [eo]
        have EO := Lib.hid eo
        clear hc5 ho hpe eo hcc hlt
        go_wp2_with first | (go_at_call 19; refine (zzch_any F src (nx src s) _ H5.out).mono ?_; rintro e w' ⟨rfl, rfl⟩) | (go_at_call 20; refine (zzoff_any F src (nx src s) _ H5.out).mono ?_; rintro e w' ⟨rfl, rfl⟩)
        rw [← EO.out]
        go_roundw
        case rel =>
          exact ⟨j + 1, nx src s, by go_num, HAN.out, H5.out, B5.out⟩
        case measure => simp [intOf]; omega

end Go.Proofs.YtamfekpcoppbgaaFmt
