/-
  FnNextRecordsLineStarts, walked. Conditions: none (beyond 65536 bytes the law says true at once).
-/
import Derived.Test.YtamfekpcoppbgaaFmtLinesM
namespace Go.Proofs.YtamfekpcoppbgaaFmt
open Go.RowKit
set_option maxRecDepth 100000
set_option linter.unusedVariables false

theorem lk_make (n : Nat) (hn : n ≤ 1048576) (w : World) : (Instr.makeSlice 30 (.int .i64 1) (.int .i64 (1 + (n : Int)))).run Tryf.prog w = .ok (.slice (some ⟨w.heap.size, 0, none⟩) 1 (n + 1)) (w.alloc (.cells (madeCells #[.int .i64 0] (n + 1)) 3)) := by
  obtain ⟨i0, hi, hz0, hz1, hz2⟩ := info_parts int_info
  have h := run_make (P := Tryf.prog) w 30 3 i0 _ Tryf.underlying30 hi hz0 .i64 .i64 1 (1 + (n : Int)) (by omega) (by omega) (by rw [hz2]; omega) (by omega)
  have e : (1 + (n : Int)).toNat = n + 1 := by omega
  rw [h, hz1, e]
  simp [Value.cells]
theorem own_start {w : World} {B g n : Nat} (hb : Blk w g 3 ((madeCells #[.int .i64 0] (n + 1)).setIfInBounds 0 (.int .i64 0))) (hB : B ≤ g) (hn : n ≤ 1048576) : w.ownsRow B 3 1 (.slice (some ⟨g, 0, none⟩) 1 (n + 1)) 1 (lnCells [0]) := by
  refine ⟨by simp [lnCells], Or.inr ⟨g, n + 1, _, rfl, hB, hb, by omega, by simp [maxLen]; omega, by simp [size_madeCells], ?_⟩⟩
  simp only [Array.toList_setIfInBounds, toList_madeCells_one, List.replicate_succ]
  simp [lnCells]

set_option maxHeartbeats 400000 in
theorem count_any (gF : Nat) (oA : Option Addr) (L cap : Nat) (w : World) (h : w.cell? ⟨gF, 4, none⟩ = some (.slice oA L cap)) :
    Calls Tryf.prog 24 #[.pointer (some ⟨gF, 0, none⟩)] w fun e w' => e = .returned (.int .i64 L) ∧ w = w' := by
  go_enter Tryf.func24, Tryf.ntmps24
  go_wp2
  go_ret
  exact ⟨rfl, rfl⟩

theorem own_shape {w : World} {B n : Nat} {v : Value} {xs : List Value} (h : w.ownsRow B 3 1 v n xs) (hn : 1 ≤ n) : ∃ g cap, v = .slice (some ⟨g, 0, none⟩) n cap ∧ B ≤ g := by
  rcases h.2 with ⟨_, h0⟩ | ⟨g, cap, cur, hv, hg, _⟩
  · omega
  · exact ⟨g, cap, hv, hg⟩
theorem own_at {w : World} {B g cap n : Nat} {l : List Nat} (h : w.ownsRow B 3 1 (.slice (some ⟨g, 0, none⟩) n cap) n (lnCells l)) (k : Nat) (hk : k < l.length) : w.cell? ⟨g, k, none⟩ = some (.int .i64 (l.getD k 0)) := by
  have h1 : (lnCells l)[k]? = some (.int .i64 (l.getD k 0)) := by
    unfold lnCells
    rw [List.getElem?_map, List.getElem?_eq_getElem hk]
    simp [List.getD, hk]
  have := h.cells (g := g) rfl k _ h1
  have ea : (⟨g, 0, none⟩ : Addr).add k = ⟨g, k, none⟩ := by unfold Addr.add; split <;> simp_all
  rw [ea] at this
  exact this

set_option maxHeartbeats 400000 in
theorem bytes_lines (oA : Option Addr) (n cap : Nat) (w : World) (hn : n ≤ 9223372036854775807) :
    Calls Tryf.prog 23 #[.slice oA n cap] w fun e w' => e = .returned (.bool (decide (n ≤ 1048576))) ∧ w = w' := by
  by_cases h : n ≤ 1048576
  · have t0 : decide ((n : Int) > 1048576) = false := by simp; omega
    have e0 : decide (n ≤ 1048576) = true := by simpa using h
    rw [e0]
    go_enter Tryf.func23, Tryf.ntmps23
    go_wp2
    go_ret
    exact ⟨rfl, rfl⟩
  · have t0 : decide ((n : Int) > 1048576) = true := by simp; omega
    have e0 : decide (n ≤ 1048576) = false := by simpa using h
    rw [e0]
    go_enter Tryf.func23, Tryf.ntmps23
    go_wp2
    go_ret
    exact ⟨rfl, rfl⟩

set_option maxHeartbeats 4000000 in
theorem lines_law (oA : Option Addr) (cap : Nat) (src : List UInt8) (w : World) (hcap : src.length ≤ cap) (hmax : cap ≤ maxLen) (hsrc : SrcAt w w.heap.size oA src) (hnil : oA = none → src = [] ∧ cap = 0)
    (htab : Lib.Utf8Tabs 4 5 w) (hg : 4 < w.heap.size ∧ 5 < w.heap.size) :
    Calls Tryf.prog 6 #[.slice oA src.length cap] w fun e w' => e = .returned (.bool true) ∧ Below w.heap.size w w' := by
  have hlen : src.length ≤ 9223372036854775807 := by simp only [maxLen] at hmax; omega
  have HB := fun W => bytes_lines oA src.length cap W hlen
  by_cases hbig : src.length ≤ 65536
  rotate_left
  · have t1 : decide ((src.length : Int) > 65536) = true := by simp; omega
    clear hsrc htab
    go_enter Tryf.func6, Tryf.ntmps6
    by_cases h2 : src.length ≤ 1048576
    · have e0 : decide (src.length ≤ 1048576) = true := by simpa using h2
      rw [e0] at HB
      clear e0 h2 hbig
      go_wp2_with (go_at_call 23; refine (HB _).mono ?_; rintro e w2 ⟨rfl, rfl⟩)
      go_ret
      exact ⟨rfl, Below.refl _ _⟩
    · have e0 : decide (src.length ≤ 1048576) = false := by simpa using h2
      rw [e0] at HB
      clear e0 h2 hbig
      go_wp2_with (go_at_call 23; refine (HB _).mono ?_; rintro e w2 ⟨rfl, rfl⟩)
      go_ret
      exact ⟨rfl, Below.refl _ _⟩
  have e0 : decide (src.length ≤ 1048576) = true := by simp; omega
  rw [e0] at HB
  clear e0
  have t1 : decide ((src.length : Int) > 65536) = false := by simp; omega
  have HC := Lib.hid (clone_any oA cap src w hsrc hnil (by omega))
  have HT := Lib.hid htab
  clear hsrc htab hnil
  go_enter Tryf.func6, Tryf.ntmps6
  go_wp2_with (go_at_call 23; refine (HB _).mono ?_; rintro e w2 ⟨rfl, rfl⟩)
  refine HC.out.mono ?_
  rintro e w1 ⟨oB, cap1, rfl, hcap1, hsrc1, _, hb1⟩
  have hsz1 := hb1.size
  have htab1 := tabs_keep HT.out hg.1 hg.2 hb1.block
  have HM := Lib.hid (mk_any oB cap1 src w1 hsrc1 htab1 (by omega) (by omega) hcap1)
  have B1 := Lib.hid hb1
  clear hsrc1 htab1 hb1 HC HT HB t1
  go_wp2_with fail
  refine HM.out.mono ?_
  rintro e w2 ⟨F, rfl, hFB, hFo, hFc, _, hs2, hb2⟩
  subst hFo hFc
  have hB2 : Below w.heap.size w w2 := B1.out.trans (hb2.mono hsz1)
  have hFB0 : w.heap.size ≤ F.B := by omega
  have H2 := Lib.hid hs2
  have B2 := Lib.hid hB2
  clear hs2 hb2 hB2 HM B1 hFB
  go_wp2_with fail
  go_loopw [5] (fun i wr => ∃ (j : Nat) (s : St), i = .int .i64 j ∧ Along src j s ∧ s.lines = ln src s.off ∧ SC F src s wr ∧ Below w.heap.size w wr) (fun i _ => src.length + 1 - (intOf i).toNat)
  case atStart => exact ⟨0, _, rfl, Along.first src, stNew_lines src, H2.out, B2.out⟩
  case round =>
    obtain ⟨j, s, rfl, hal, hln, hs, hb⟩ := hrel
    obtain ⟨hend, hj, hj2⟩ := hal.at_end
    have tl : decide ((j : Int) ≤ (src.length : Int)) = true := by simpa using hj
    have hec : s.ec ≤ 4611686018427387904 := by have := hal.ec; omega
    have hz1 := hs.ch
    have HA := Lib.hid hal
    have HS := Lib.hid hs
    have HX := Lib.hid hb
    clear hal hs hb H2 B2
    by_cases hch : s.ch = -1
    rotate_left
    · have tc : (s.ch != -1) = true := by simpa using hch
      have HAN := Lib.hid (HA.out.next hch)
      have HLN := Lib.hid (nx_lines src s HA.out.good hln)
      have hjl := hj2 hch
      clear hend hj2 hch hln
      go_wp2_with (go_at_call 19; refine (zzch_any F src s _ HS.out).mono ?_; rintro e w' ⟨rfl, rfl⟩)
      refine (zznext_any F src s _ HS.out hec).mono ?_
      rintro e w5 ⟨rfl, hs5, hb5⟩
      have H5 := Lib.hid hs5
      have B5 := Lib.hid (HX.out.trans (hb5.mono hFB0))
      clear hs5 hb5 HS HX
      go_wp2_with fail
      go_roundw
      case rel => exact ⟨j + 1, nx src s, by go_num, HAN.out, HLN.out, H5.out, B5.out⟩
      case measure => simp [intOf]; omega
    have tc : (s.ch != -1) = false := by simpa using hch
    have hoff : s.off = src.length := hend.1 hch
    rw [hoff] at hln
    have HLN := Lib.hid hln
    have hmk := fun w => lk_make src.length (by omega) w
    have h3 := Blk.new wr 3 (madeCells #[.int .i64 0] (src.length + 1))
    have h4 := Blk.new wr 3 ((madeCells #[.int .i64 0] (src.length + 1)).setIfInBounds 0 (.int .i64 0))
    have c0 : (wr.alloc (.cells (madeCells #[.int .i64 0] (src.length + 1)) 3)).cell? ⟨wr.heap.size, 0, none⟩ = some (.int .i64 0) := by
      rw [h3.cell]
      simp [madeCells]
    have f0 := h3.free 0
    have hb4 : Below wr.heap.size wr (wr.alloc (.cells ((madeCells #[.int .i64 0] (src.length + 1)).setIfInBounds 0 (.int .i64 0)) 3)) := (Below.refl _ _).alloc (Nat.le_refl _) _
    have HO := Lib.hid (own_start (B := wr.heap.size) h4 (Nat.le_refl _) (by omega))
    have HW4 := Lib.hid hb4
    clear h3 h4 hb4 hch hend hj2 hln hoff
    go_wp2_with (go_at_call 19; refine (zzch_any F src s _ HS.out).mono ?_; rintro e w' ⟨rfl, rfl⟩)
    have hB4 := HW4.out
    have hg4 := HO.out
    generalize wr.alloc (.cells ((madeCells #[.int .i64 0] (src.length + 1)).setIfInBounds 0 (.int .i64 0)) 3) = w4 at hB4 hg4 ⊢
    have B4 := Lib.hid hB4
    have O4 := Lib.hid hg4
    clear hB4 hg4 HO HW4 hmk c0 f0 HA tc tl
    obtain ⟨w3, hw3⟩ : ∃ w3, wr = w3 := ⟨wr, rfl⟩
    rw [hw3] at B4 O4 HS HX ⊢
    clear hw3
    obtain ⟨Bw, hBw⟩ : ∃ Bw, w3.heap.size = Bw := ⟨_, rfl⟩
    rw [hBw] at B4 O4 ⊢
    have HBw := Lib.hid hBw
    clear hBw
    obtain ⟨i0, hi, hz0, hz1, hz2⟩ := info_parts int_info
    go_loopw [6, 7] (fun v i wq => ∃ (k g cap : Nat), k ≤ src.length ∧ i = .int .i64 k ∧ v = .slice (some ⟨g, 0, none⟩) (ln src k).length cap ∧ wq.ownsRow Bw 3 1 v (ln src k).length (lnCells (ln src k)) ∧ Below Bw w3 wq) (fun _ i _ => src.length - (intOf i).toNat)
    case atStart => exact ⟨0, _, _, Nat.zero_le _, rfl, rfl, O4.out, B4.out⟩
    case round =>
      obtain ⟨k, g, cap, hk, rfl, rfl, hown, hbq⟩ := hrel
      have hsq : SC F src s wr := HS.out.below (by rw [HBw.out]; exact hbq)
      have hszq : Bw ≤ wr.heap.size := by have := HBw.out; have := hbq.size; omega
      clear B4 O4
      obtain ⟨hl1, hl2, _, _⟩ := ln_ok src k
      by_cases hlt : k < src.length
      · obtain ⟨b, o, eo, hb, hc⟩ := hsq.srcAt.at_ (by omega)
        have hcell : wr.cell? ⟨b, o + k, none⟩ = some (.int .u8 (bt src k : Int)) := by
          rw [hc k hlt]
          simp [bt, hlt, List.getD]
        have EO := Lib.hid eo
        have BQ := Lib.hid hbq
        rw [eo]
        clear eo hc hsq hbq
        have hlk : ln src (k + 1) = if bt src k = 10 ∧ k + 1 < src.length then ln src k ++ [k + 1] else ln src k := rfl
        by_cases hA : bt src k = 10 ∧ k + 1 < src.length
        · rw [if_pos hA] at hlk
          have ta : ((bt src k : Int) == 10) = true := by simp; omega
          have tb : decide ((k : Int) + 1 < (src.length : Int)) = true := by simp; omega
          have hle : (ln src (k + 1)).length = (ln src k).length + 1 := by rw [hlk]; simp
          have hce : lnCells (ln src (k + 1)) = lnCells (ln src k) ++ [.int .i64 ((k : Int) + 1)] := by rw [hlk]; simp [lnCells]
          have HLE := Lib.hid hle
          have HCE := Lib.hid hce
          clear hlk hA hle hce
          generalize hLk : (ln src k).length = Lk at *
          generalize bt src k = z at *
          have hgb : Bw ≤ g := by
            rcases hown.2 with ⟨h0, _⟩ | ⟨g', cap', cur, hv, hg', _⟩
            · cases h0
            · injection hv with h1; injection h1 with h1; injection h1 with h1; omega
          have HO2 := Lib.hid (hown.alloc (.cells #[.int .i64 ((k : Int) + 1)] 3))
          have a1 : ∀ j u, [Value.int .i64 ((k : Int) + 1)][j]? = some u → (wr.alloc (.cells #[.int .i64 ((k : Int) + 1)] 3)).cell? ((⟨wr.heap.size, 0, none⟩ : Addr).add j) = some u := by
            intro j u hj
            have hj0 : j = 0 := by
              rcases j with _ | j
              · rfl
              · simp at hj
            subst hj0
            have hu : Value.int .i64 ((k : Int) + 1) = u := by simpa using hj
            rw [← hu, show (⟨wr.heap.size, 0, none⟩ : Addr).add 0 = ⟨wr.heap.size, 0, none⟩ from rfl, (Blk.new wr _ _).cell]
            rfl
          have a2 : ∀ u ∈ [Value.int .i64 ((k : Int) + 1)], u.oneCell' = true := by
            intro u hu
            have hu2 : u = Value.int .i64 ((k : Int) + 1) := by simpa using hu
            rw [hu2]
            rfl
          have A1 := Lib.hid a1
          have A2 := Lib.hid a2
          have hB1 : Bw ≤ (wr.alloc (.cells #[.int .i64 ((k : Int) + 1)] 3)).heap.size := by simp; omega
          have HB1 := Lib.hid hB1
          have hm1 : Lk + 1 ≤ maxLen := by simp only [maxLen]; omega
          have HLk := Lib.hid hLk
          clear hown a1 a2 hB1 hLk
          go_wp2_with (at_builtin; (
                       refine wpList_append_own _ rfl (.tmp 63) (.tmp 66) 30 rfl Bw 3 i0 (.int .i64 0) 1 8 Tryf.underlying30 hi hz0 hz1 hz2 rfl (by decide) (.slice (some ⟨g, 0, none⟩) Lk cap) Lk (lnCells (ln src k)) rfl HO2.out ⟨wr.heap.size, 0, none⟩ 1 1 [.int .i64 ((k : Int) + 1)] rfl rfl A1.out A2.out hm1 (by omega) HB1.out ?_
                       intro v' w1 hown1 hgrow hiff
                       have HG := Lib.hid hgrow
                       have HW := Lib.hid hown1
                       clear hgrow hown1 hiff
                       refine Hid.out ?_))
          refine Lib.hid ?_
          have hown1 := HW.out
          have hgrow := HG.out
          obtain ⟨g2, cap2, hv2, hg2⟩ := own_shape hown1 (by omega)
          have hB5 : Below Bw wr w1 := ⟨hgrow.os, hgrow.tape, hgrow.output, by have := hgrow.size; simp at this; omega, fun j hj => (hgrow.block j (by simp; omega) (by have := hgb; simp [Value.ownBlock]; omega)).trans (Below.heap_alloc _ _ _ (by omega))⟩
          have B5 := Lib.hid (BQ.out.trans hB5)
          have HV := Lib.hid hv2
          rw [hv2]
          clear hown1 hgrow hB5 hv2
          go_wp2
          go_roundw
          case rel =>
            refine ⟨k + 1, g2, cap2, by omega, by go_num, by rw [HLE.out], ?_, B5.out⟩
            have := HW.out
            rw [HLE.out, HCE.out, ← HV.out]
            exact this
          case measure => simp [intOf]; omega
        · rw [if_neg hA] at hlk
          have OQ := Lib.hid hown
          have HLK := Lib.hid hlk
          have hsz : (ln src k).length ≤ k + 1 := hl2
          clear hown hlk
          by_cases h10 : bt src k = 10
          · have ta : ((bt src k : Int) == 10) = true := by simp; omega
            have tb : decide ((k : Int) + 1 < (src.length : Int)) = false := by simp; omega
            clear hA h10
            generalize bt src k = z at *
            go_wp2
            go_roundw
            case rel => exact ⟨k + 1, g, cap, by omega, by go_num, by rw [HLK.out], by rw [HLK.out]; exact OQ.out, BQ.out⟩
            case measure => simp [intOf]; omega
          · have ta : ((bt src k : Int) == 10) = false := by simp; omega
            clear hA h10
            generalize bt src k = z at *
            go_wp2
            go_roundw
            case rel => exact ⟨k + 1, g, cap, by omega, by go_num, by rw [HLK.out], by rw [HLK.out]; exact OQ.out, BQ.out⟩
            case measure => simp [intOf]; omega
      · obtain rfl : k = src.length := by omega
        obtain ⟨lv, hf, hownl⟩ := hsq.file
        rw [HLN.out] at hownl
        obtain ⟨gl, capl, hlv, _⟩ := own_shape hownl hl1
        subst hlv
        have c4 : wr.cell? ⟨F.gF, 4, none⟩ = some (.slice (some ⟨gl, 0, none⟩) (ln src src.length).length capl) := by rw [hf.cell]; rfl
        have hcl := fun i (hi : i < (ln src src.length).length) => own_at hownl i hi
        have hcw := fun i (hi : i < (ln src src.length).length) => own_at hown i hi
        have CL := Lib.hid hcl
        have CW := Lib.hid hcw
        have BQ := Lib.hid hbq
        clear hsq hf hownl hcl hcw hbq hown
        generalize ln src src.length = ls at *
        have tn : ((ls.length : Int) != (ls.length : Int)) = false := by simp
        go_wp2_with (go_at_call 24; refine (count_any F.gF _ _ _ _ c4).mono ?_; rintro e w' ⟨rfl, rfl⟩)
        go_loopw [9] (fun i wq => ∃ k : Nat, k ≤ ls.length ∧ i = .int .i64 k ∧ (∀ i, i < ls.length → wq.cell? ⟨gl, i, none⟩ = some (.int .i64 (ls.getD i 0))) ∧ (∀ i, i < ls.length → wq.cell? ⟨g, i, none⟩ = some (.int .i64 (ls.getD i 0))) ∧ Below Bw w3 wq) (fun i _ => ls.length - (intOf i).toNat)
        case atStart => exact ⟨0, Nat.zero_le _, rfl, CL.out, CW.out, BQ.out⟩
        case round =>
          obtain ⟨k, hk, rfl, hA, hB, hbq⟩ := hrel
          clear CL CW BQ c4
          have HAA := Lib.hid hA
          have HBB := Lib.hid hB
          have BQ := Lib.hid hbq
          by_cases hlt : k < ls.length
          · have d1 := hA k hlt
            have d2 := hB k hlt
            have te : (((ls.getD k 0 : Nat) : Int) != ((ls.getD k 0 : Nat) : Int)) = false := by simp
            have tl : decide ((k : Int) < (ls.length : Int)) = true := by simpa using hlt
            generalize ls.getD k 0 = z at *
            clear hA hB hbq
            go_wp2_with fail
            go_quiet (fail)
            go_wp2
            go_roundw
            case rel => exact ⟨k + 1, by omega, by go_num, HAA.out, HBB.out, below_drewN0 BQ.out _⟩
            case measure => simp [intOf]; omega
          · obtain rfl : k = ls.length := by omega
            clear hA hB hbq
            go_wp2
            go_ret
            exact ⟨rfl, HX.out.trans (BQ.out.mono (by rw [← HBw.out]; exact HX.out.size))⟩

end Go.Proofs.YtamfekpcoppbgaaFmt
