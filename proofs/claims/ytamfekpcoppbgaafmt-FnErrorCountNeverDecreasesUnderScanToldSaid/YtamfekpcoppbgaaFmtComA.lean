/-
  Comments as relations on states. Conditions: as stated.
-/
import Derived.Test.YtamfekpcoppbgaaFmtCommentBG
import Derived.Test.YtamfekpcoppbgaaFmtSkA
namespace Go.Proofs.YtamfekpcoppbgaaFmt
open Go.RowKit
set_option maxRecDepth 100000
set_option linter.unusedVariables false

inductive LnR (src : List UInt8) : St → St → Prop
  | stop {s : St} : (s.ch = 10 ∨ s.ch < 0) → LnR src s s
  | step {s t : St} : 0 ≤ s.ch → s.ch ≠ 10 → LnR src (nx src s) t → LnR src s t
inductive BkR (src : List UInt8) : St → St → Bool → Prop
  | eof {s : St} : s.ch < 0 → BkR src s s false
  | shut {s : St} : s.ch = 42 → (nx src s).ch = 47 → BkR src s (nx src (nx src s)) true
  | step {s t : St} {b : Bool} : 0 ≤ s.ch → ¬ (s.ch = 42 ∧ (nx src s).ch = 47) → BkR src (nx src s) t b → BkR src s t b
def BkE (src : List UInt8) (s u : St) : Prop := ∃ t b, BkR src s t b ∧ u = rawEnd t b
theorem BkE.step {src : List UInt8} {s u : St} (h : BkE src (nx src s) u) (h0 : 0 ≤ s.ch) (hn : ¬ (s.ch = 42 ∧ (nx src s).ch = 47)) : BkE src s u := by
  obtain ⟨t, b, h1, h2⟩ := h
  exact ⟨t, b, BkR.step h0 hn h1, h2⟩
def ComPostR (F : Fix) (src : List UInt8) (R : St → Prop) (txt : List UInt8) (k e0 : Nat) (w : World) (e : Ending) (w' : World) : Prop :=
  ∃ t : St, e = .returned (.string ⟨txt.toArray⟩) ∧ Good src t ∧ t.off = k ∧ t.ec ≤ e0 + k + 1 ∧ SC F src t w' ∧ Below F.B w w' ∧ R t
set_option maxHeartbeats 4000000 in
theorem comLineR_any (F : Fix) (src : List UInt8) (s : St) (p k : Nat) (w : World) (h : SC F src s w) (hg : Good src s) (hp : s.off = p + 1) (hb0 : bt src p = 47) (hb1 : bt src (p + 1) = 47) (hlt1 : p + 1 < src.length) (hke : LcEnd src p k) (hec : s.ec ≤ 100000000000) :
    Calls Tryf.prog 45 #[.pointer (some ⟨F.gS, 0, none⟩)] w (ComPostR F src (LnR src (nx src s)) (filt (cut src p k)) k s.ec w) := by
  have hch : s.ch = 47 := (Good.ascii hg 47 (by omega)).2 ⟨by omega, by rw [hp]; exact hb1⟩
  have st := step_of hg (by omega)
  have ho1 := st.one (by rw [hp]; omega)
  have hstart : LcIn src p s.ec 0 (nx src s) := ⟨st.good, by omega, fun i i1 i2 => by omega, (cr_start src (p + 2) _ (by omega)).symm, by have := st.ec; omega⟩
  have c2 : w.cell? ⟨F.gS, 2, none⟩ = some (.int .i32 47) := by rw [h.blkS.cell, ← hch]; rfl
  have c3 : w.cell? ⟨F.gS, 3, none⟩ = some (.int .i64 ((p + 1 : Nat) : Int)) := by rw [h.blkS.cell, ← hp]; rfl
  have hlen := h.len
  obtain ⟨e0, he0⟩ : ∃ e0, s.ec = e0 := ⟨_, rfl⟩
  rw [he0] at hstart hec ⊢
  have H := Lib.hid h
  have HE := Lib.hid he0
  have HI := Lib.hid hstart
  have HKE := Lib.hid hke
  have HB01 := Lib.hid (And.intro hb0 hb1)
  clear h hg hp hb0 hb1 hke hch st ho1 hstart he0
  go_enter Tryf.func45, Tryf.ntmps45
  go_wp2
  refine wp_scope_fwd 0 rfl ?_
  go_wp2_with fail
  refine (next_any F src s _ H.out (by rw [HE.out]; omega)).mono ?_
  rintro e w1 ⟨rfl, hs1, hb1⟩
  have H1 := Lib.hid hs1
  have B1 := Lib.hid hb1
  clear hs1 hb1 H c2 c3
  go_wp2_with fail
  go_loopw [4] (fun v wr => ∃ (c : Nat) (t : St), v = .int .i64 c ∧ LcIn src p e0 c t ∧ (∀ u, LnR src t u → LnR src (nx src s) u) ∧ SC F src t wr ∧ Below F.B w wr) (fun _ wr => src.length + 1 - ((match wr.cell? ⟨F.gS, 3, none⟩ with | some (.int _ z) => z | _ => 0) : Int).toNat)
  case atStart => exact ⟨0, _, rfl, HI.out, fun u h => h, H1.out, B1.out⟩
  case round =>
    obtain ⟨c, t, rfl, hin, hgg, hs, hb⟩ := hrel
    have HGG := Lib.hid hgg
    clear hgg
    have d2 : wr.cell? ⟨F.gS, 2, none⟩ = some (.int .i32 t.ch) := by rw [hs.blkS.cell]; rfl
    have d3 : wr.cell? ⟨F.gS, 3, none⟩ = some (.int .i64 (t.off : Int)) := by rw [hs.blkS.cell]; rfl
    have htl := hs.off
    have hcc : c ≤ 1048576 := by
      rw [hin.cnt]
      have := cr_le src (p + 2) t.off
      omega
    have hte := hin.ec
    have M1 := Lib.hid d3
    have HS := Lib.hid hs
    have HB := Lib.hid hb
    have HIN := Lib.hid hin
    clear hs hb hin H1 B1 HI
    by_cases hgo : t.ch ≠ 10 ∧ 0 ≤ t.ch
    · have t1 : (t.ch != 10) = true := by simpa using hgo.1
      have t2 : decide (t.ch ≥ 0) = true := by simpa using hgo.2
      have hnx := HIN.out.next hgo.2 hgo.1
      have HNX := Lib.hid hnx.1
      have hfar := hnx.2.1
      have hltn := hnx.2.2
      have HGN : Hid (∀ u, LnR src (nx src t) u → LnR src (nx src s) u) := Lib.hid (fun u hu => HGG.out u (LnR.step hgo.2 hgo.1 hu))
      clear hgo d3 hnx
      by_cases h13 : t.ch = 13
      · have t3 : (t.ch == 13) = true := by simpa using h13
        have H13 := Lib.hid h13
        clear h13
        go_wp2_with fail
        refine (next_any F src t _ HS.out (by omega)).mono ?_
        rintro e w2 ⟨rfl, hs2, hb2⟩
        have H2 := Lib.hid hs2
        have B2 := Lib.hid (HB.out.trans hb2)
        have hm2 : w2.cell? ⟨F.gS, 3, none⟩ = some (.int .i64 ((nx src t).off : Int)) := by rw [hs2.blkS.cell]; rfl
        have M2 := Lib.hid hm2
        clear hs2 hb2 hm2
        go_wp2_with fail
        go_roundw
        case rel =>
          have := HNX.out
          rw [if_pos H13.out] at this
          exact ⟨c + 1, nx src t, by go_num, this, HGN.out, H2.out, B2.out⟩
        case measure =>
          rw [M2.out, M1.out]
          simp only [Int.toNat_natCast]
          omega
      · have t3 : (t.ch == 13) = false := by simpa using h13
        have H13 := Lib.hid h13
        clear h13
        go_wp2_with fail
        refine (next_any F src t _ HS.out (by omega)).mono ?_
        rintro e w2 ⟨rfl, hs2, hb2⟩
        have H2 := Lib.hid hs2
        have B2 := Lib.hid (HB.out.trans hb2)
        have hm2 : w2.cell? ⟨F.gS, 3, none⟩ = some (.int .i64 ((nx src t).off : Int)) := by rw [hs2.blkS.cell]; rfl
        have M2 := Lib.hid hm2
        clear hs2 hb2 hm2
        go_wp2_with fail
        go_roundw
        case rel =>
          have := HNX.out
          rw [if_neg H13.out] at this
          exact ⟨c, nx src t, by go_num, this, HGN.out, H2.out, B2.out⟩
        case measure =>
          rw [M2.out, M1.out]
          simp only [Int.toNat_natCast]
          omega
    · have hend := LcIn.done HIN.out (by
        by_cases h1 : t.ch = 10
        · exact Or.inl h1
        · exact Or.inr (by have : ¬ 0 ≤ t.ch := fun hh => hgo ⟨h1, hh⟩
                           omega))
      have HLR : Hid (LnR src (nx src s) t) := Lib.hid (HGG.out t (LnR.stop (by
        by_cases h1 : t.ch = 10
        · exact Or.inl h1
        · exact Or.inr (by have : ¬ 0 ≤ t.ch := fun hh => hgo ⟨h1, hh⟩
                           omega))))
      have hk : t.off = k := hend.same HKE.out
      have hkl := HKE.out.lo
      have hkh := HKE.out.hi
      obtain ⟨L, rfl⟩ : ∃ L, k = p + (L + 2) := ⟨k - p - 2, by omega⟩
      rw [hk] at d3
      obtain ⟨b, o, eo, hbB, hcells⟩ := HS.out.srcAt.at_ (by omega)
      have d1 : wr.cell? ⟨F.gS, 1, none⟩ = some (.slice (some ⟨b, o, none⟩) src.length F.cap) := by rw [HS.out.blkS.cell, ← eo]; rfl
      have hcap := HS.out.cap
      have hsl := fun W => run_sl W b o src.length F.cap p (p + (L + 2)) (by omega) (by omega) (by omega)
      have hslA := fun W => run_slA W b o src.length F.cap p (p + (L + 2)) (by omega) (by omega) (by omega)
      rw [show p + (L + 2) - p = L + 2 by omega] at hsl hslA
      have HK := Lib.hid hk
      have HCE := Lib.hid hcells
      clear hend hk eo hcells
      have tt : (t.ch != 10) = false ∨ ((t.ch != 10) = true ∧ decide (t.ch ≥ 0) = false) := by
        by_cases h1 : t.ch = 10
        · exact Or.inl (by simpa using h1)
        · exact Or.inr ⟨by simpa using h1, by
            have : ¬ 0 ≤ t.ch := fun hh => hgo ⟨h1, hh⟩
            simpa using this⟩
      clear hgo
      rcases tt with t1 | ⟨t1, t2⟩
      all_goals
        go_wp2_with fail
        apply wp_goto
        refine And.intro rfl ?_
        refine Hid.out ?_
        refine Lib.hid ?_
        show Code.wp _ _ _ _ _
        have hcn := HIN.out.cnt
        rw [HK.out] at hcn
        have HCN := Lib.hid hcn
        clear hcn d2 t1
        go_wp2_with fail
        go_quiet (fail)
        rw [show p + (L + 2) - p = L + 2 by omega]
        have hs5 := HS.out.drewN nq
        have hb5 := below_drewN0 HB.out nq
        have hc5 : ∀ i (h : i < src.length), (wr.drewN nq).cell? ⟨b, o + i, none⟩ = some (.int .u8 (src[i].toNat : Int)) := HCE.out
        generalize wr.drewN nq = w5 at hs5 hb5 hc5 ⊢
        have hbl5 : b < w5.heap.size := by have := hs5.hS; have := hs5.blkS.lt; omega
        obtain ⟨hb0, hb1⟩ := HB01.out
        have hbt : ∀ i, i < src.length → w5.cell? ⟨b, o + i, none⟩ = some (.int .u8 (bt src i : Int)) := by
          intro i hi
          rw [hc5 i hi]
          simp [bt, hi, List.getD]
        have q1 : w5.cell? ⟨b, o + p + 1, none⟩ = some (.int .u8 47) := by
          rw [Nat.add_assoc, hbt (p + 1) (by omega), hb1]
          rfl
        have q2 : w5.cell? ⟨b, o + p + (L + 1), none⟩ = some (.int .u8 (bt src (p + (L + 1)) : Int)) := by
          rw [Nat.add_assoc, hbt (p + (L + 1)) (by omega)]
        have hbe : t.ec ≤ e0 + (p + (L + 2)) + 1 := by
          have := HK.out
          omega
        have H5 := Lib.hid hs5
        have B5 := Lib.hid hb5
        have HC5 := Lib.hid hc5
        clear hs5 hb5 hc5 hbt HS HB HCE d1 d3 M1 hsl hslA
        by_cases hc0 : c = 0
        · have hid := filt_id (nocr (src := src) (p := p) (k := p + (L + 2)) hkh (by omega) (by omega) (by rw [← HCN.out]; exact hc0))
          subst hc0
          have hcv := run_txt (cut src p (p + (L + 2))) b (o + p) (F.cap - p) w5 (cut_cells hkh HC5.out)
          rw [cut_len src p _ hkh, show p + (L + 2) - p = L + 2 by omega] at hcv
          have HID := Lib.hid hid
          clear hid hb0 hb1 q1 q2
          go_wp2
          rw [Exit.noGoto_ret]
          go_ret
          exact ⟨t, by rw [HID.out]; rfl, HIN.out.good, HK.out, by omega, H5.out, B5.out, HLR.out⟩
        · have tc : decide ((c : Int) > 0) = true := by simp; omega
          have hcp : 0 < c := by omega
          clear hc0
          by_cases h13 : bt src (p + (L + 1)) = 13
          · obtain ⟨L', rfl⟩ : ∃ L', L = L' + 1 := by
              rcases L with _ | L'
              · rw [Nat.zero_add] at h13
                omega
              · exact ⟨L', rfl⟩
            have hfl : filt (cut src p (p + (L' + 1 + 2))) = filt (cut src p (p + (L' + 1 + 1))) := filt_last src p (p + (L' + 1 + 1)) (by omega) (by omega) h13
            have HFL := Lib.hid hfl
            have hcs : cr src (p + 2) (p + (L' + 1 + 2)) = cr src (p + 2) (p + (L' + 1 + 1)) + 1 := by
              show cr src (p + 2) (p + (L' + 1 + 1)) + (if p + 2 ≤ p + (L' + 1 + 1) ∧ bt src (p + (L' + 1 + 1)) = 13 then 1 else 0) = _
              rw [if_pos ⟨by omega, h13⟩]
            have t13 : ((bt src (p + (L' + 1 + 1)) : Int) == 13) = true := by simp [h13]
            have hsl := fun W => run_slo W b (o + p) (L' + 1 + 2) (F.cap - p) (L' + 1 + 1) (by omega)
            have hslA := fun W => run_sloA W b (o + p) (L' + 1 + 2) (F.cap - p) (L' + 1 + 1) (by omega)
            by_cases hc1 : c = 1
            · have hid := filt_id (nocr (src := src) (p := p) (k := p + (L' + 1 + 1)) (by omega) (by omega) (by omega) (by have := HCN.out; omega))
              have hcv := run_txt (cut src p (p + (L' + 1 + 1))) b (o + p) (F.cap - p) w5 (cut_cells (by omega) HC5.out)
              rw [cut_len src p _ (by omega), show p + (L' + 1 + 1) - p = L' + 2 by omega] at hcv
              have HID := Lib.hid hid
              subst hc1
              clear hid hfl hb0 hb1 h13 hcs
              go_wp2
              rw [Exit.noGoto_ret]
              go_ret
              exact ⟨t, by rw [HFL.out, HID.out]; rfl, HIN.out.good, HK.out, by omega, H5.out, B5.out, HLR.out⟩
            · have hcI : (1 : Int) < (c : Int) := by omega
              have hcI2 : (0 : Int) < (c : Int) - 1 := by omega
              have hcN : 1 < c := by omega
              clear hfl hc1 hb0 hb1 h13 hcs
              have hst := strip_any b (o + p) (F.cap - p) (cut src p (p + (L' + 1 + 1))) false w5 hbl5 (cut_cells (by omega) HC5.out) (by rw [cut_len src p _ (by omega)]; omega)
              rw [cut_len src p _ (by omega), show p + (L' + 1 + 1) - p = L' + 2 by omega] at hst
              have HST := Lib.hid hst
              clear hst
              go_wp2_with fail
              refine HST.out.mono ?_
              rintro e w6 ⟨g6, cap6, rfl, _, hg6, hc6, hb6⟩
              have hcv := run_txt _ g6 0 cap6 w6 hc6
              have hs6 := H5.out.below hb6
              have H6 := Lib.hid hs6
              have B6 := Lib.hid (B5.out.trans (hb6.mono (by have := H5.out.hS; have := H5.out.blkS.lt; omega)))
              have HSF := Lib.hid (strip_filt (cut src p (p + (L' + 1 + 1))))
              clear hs6 hb6 hc6 HST
              go_wp2
              rw [Exit.noGoto_ret]
              go_ret
              exact ⟨t, by rw [HFL.out, ← HSF.out]; rfl, HIN.out.good, HK.out, by omega, H6.out, B6.out, HLR.out⟩
          · have t13 : ((bt src (p + (L + 1)) : Int) == 13) = false := by simp; omega
            clear h13 hb0 hb1
            have hst := strip_any b (o + p) (F.cap - p) (cut src p (p + (L + 2))) false w5 hbl5 (cut_cells (by omega) HC5.out) (by rw [cut_len src p _ (by omega)]; omega)
            rw [cut_len src p _ (by omega), show p + (L + 2) - p = L + 2 by omega] at hst
            have HST := Lib.hid hst
            clear hst
            go_wp2_with fail
            refine HST.out.mono ?_
            rintro e w6 ⟨g6, cap6, rfl, _, hg6, hc6, hb6⟩
            have hcv := run_txt _ g6 0 cap6 w6 hc6
            have hs6 := H5.out.below hb6
            have H6 := Lib.hid hs6
            have B6 := Lib.hid (B5.out.trans (hb6.mono (by have := H5.out.hS; have := H5.out.blkS.lt; omega)))
            have HSF := Lib.hid (strip_filt (cut src p (p + (L + 2))))
            clear hs6 hb6 hc6 HST
            go_wp2
            rw [Exit.noGoto_ret]
            go_ret
            exact ⟨t, by rw [← HSF.out]; rfl, HIN.out.good, HK.out, by omega, H6.out, B6.out, HLR.out⟩

set_option maxHeartbeats 4000000 in
theorem comBlkR_any (F : Fix) (src : List UInt8) (s : St) (p k : Nat) (closed : Bool) (w : World) (h : SC F src s w) (hg : Good src s) (hp : s.off = p + 1) (hb0 : bt src p = 47) (hb1 : bt src (p + 1) = 42) (hlt1 : p + 1 < src.length) (hke : BcEnd src p k closed) (hec : s.ec ≤ 100000000000) :
    Calls Tryf.prog 45 #[.pointer (some ⟨F.gS, 0, none⟩)] w (ComPostR F src (BkE src (nx src s)) (strip (cut src p k) true) k s.ec w) := by
  have hch : s.ch = 42 := (Good.ascii hg 42 (by omega)).2 ⟨by omega, by rw [hp]; exact hb1⟩
  have st := step_of hg (by omega)
  have ho1 := st.one (by rw [hp]; omega)
  have hstart : BcIn src p s.ec 0 (nx src s) := ⟨st.good, by omega, fun i i1 i2 => by omega, (cr_start src (p + 2) _ (by omega)).symm, by have := st.ec; omega⟩
  have c2 : w.cell? ⟨F.gS, 2, none⟩ = some (.int .i32 42) := by rw [h.blkS.cell, ← hch]; rfl
  have c3 : w.cell? ⟨F.gS, 3, none⟩ = some (.int .i64 ((p + 1 : Nat) : Int)) := by rw [h.blkS.cell, ← hp]; rfl
  have hlen := h.len
  obtain ⟨e0, he0⟩ : ∃ e0, s.ec = e0 := ⟨_, rfl⟩
  rw [he0] at hstart hec ⊢
  have H := Lib.hid h
  have HE := Lib.hid he0
  have HI := Lib.hid hstart
  have HKE := Lib.hid hke
  have HB01 := Lib.hid (And.intro hb0 hb1)
  clear h hg hp hb0 hb1 hke hch st ho1 hstart he0
  go_enter Tryf.func45, Tryf.ntmps45
  go_wp2
  refine wp_scope_fwd 0 rfl ?_
  go_wp2_with fail
  refine (next_any F src s _ H.out (by rw [HE.out]; omega)).mono ?_
  rintro e w1 ⟨rfl, hs1, hb1⟩
  have H1 := Lib.hid hs1
  have B1 := Lib.hid hb1
  clear hs1 hb1 H c2 c3
  go_wp2_with fail
  go_loopw [4] (fun v wr => ∃ (c : Nat) (t : St), v = .int .i64 c ∧ BcIn src p e0 c t ∧ (∀ u, BkE src t u → BkE src (nx src s) u) ∧ SC F src t wr ∧ Below F.B w wr) (fun _ wr => src.length + 1 - ((match wr.cell? ⟨F.gS, 3, none⟩ with | some (.int _ z) => z | _ => 0) : Int).toNat)
  case atStart => exact ⟨0, _, rfl, HI.out, fun u h => h, H1.out, B1.out⟩
  case round =>
    obtain ⟨c, t, rfl, hin, hgg, hs, hb⟩ := hrel
    have HGG := Lib.hid hgg
    clear hgg
    have d2 : wr.cell? ⟨F.gS, 2, none⟩ = some (.int .i32 t.ch) := by rw [hs.blkS.cell]; rfl
    have d30 : wr.cell? ⟨F.gS, 3, none⟩ = some (.int .i64 (t.off : Int)) := by rw [hs.blkS.cell]; rfl
    have htl := hs.off
    have hcc : c ≤ 1048576 := by
      rw [hin.cnt]
      have := cr_le src (p + 2) t.off
      omega
    have hte := hin.ec
    have M1 := Lib.hid d30
    have HS := Lib.hid hs
    have HB := Lib.hid hb
    have HIN := Lib.hid hin
    clear hs hb hin H1 B1 HI d30
    by_cases hgo : 0 ≤ t.ch
    · have t2 : decide (t.ch ≥ 0) = true := by simpa using hgo
      have stp0 := step_of HIN.out.good hgo
      have hfar := stp0.far
      have hltn := stp0.lt
      have hec2 := stp0.ec
      clear stp0
      by_cases h42 : t.ch = 42
      · have HQ := Lib.hid h42
        have tA : (t.ch == 13) = false := by simp [h42]
        have tB : (t.ch == 42) = true := by simp [h42]
        clear h42
        go_wp2_with fail
        refine (next_any F src t _ HS.out (by omega)).mono ?_
        rintro e w2 ⟨rfl, hs2, hb2⟩
        have dd2 : w2.cell? ⟨F.gS, 2, none⟩ = some (.int .i32 (nx src t).ch) := by rw [hs2.blkS.cell]; rfl
        have hm2 : w2.cell? ⟨F.gS, 3, none⟩ = some (.int .i64 ((nx src t).off : Int)) := by rw [hs2.blkS.cell]; rfl
        have M2 := Lib.hid hm2
        have H2 := Lib.hid hs2
        have B2 := Lib.hid (HB.out.trans hb2)
        clear hs2 hb2 hm2
        by_cases h47 : (nx src t).ch = 47
        · have tC : ((nx src t).ch == 47) = true := by simp [h47]
          obtain ⟨he1, he2, he3, he4, he5⟩ := HIN.out.shut HQ.out h47
          have hk : (nx src (nx src t)).off = k := he1.same HKE.out
          have HCN0 := Lib.hid he3
          have HG := Lib.hid he2
          have HK := Lib.hid hk
          have HBE : Hid ((nx src (nx src t)).ec ≤ e0 + k + 1) := Lib.hid (by rw [← hk]; omega)
          have HLR : Hid (BkE src (nx src s) (nx src (nx src t))) := Lib.hid (HGG.out _ ⟨_, true, BkR.shut HQ.out h47, rfl⟩)
          clear h47 he1 he2 he3 he4 he5 hk
          go_wp2_with fail
          refine (next_any F src (nx src t) _ H2.out (by omega)).mono ?_
          rintro e w3 ⟨rfl, hs3, hb3⟩
          have HST := Lib.hid hs3
          have HBT := Lib.hid (B2.out.trans hb3)
          clear hs3 hb3 dd2
          go_wp2_with fail
          apply wp_goto
          refine And.intro rfl ?_
          refine Hid.out ?_
          refine Lib.hid ?_
          show Code.wp _ _ _ _ _
          have hkl := HKE.out.lo
          have hkh := HKE.out.hi
          obtain ⟨L, rfl⟩ : ∃ L, k = p + (L + 2) := ⟨k - p - 2, by omega⟩
          obtain ⟨b, o, eo, hbB, hcells⟩ := HST.out.srcAt.at_ (by omega)
          have d1 : w3.cell? ⟨F.gS, 1, none⟩ = some (.slice (some ⟨b, o, none⟩) src.length F.cap) := by rw [HST.out.blkS.cell, ← eo]; rfl
          have d3 : w3.cell? ⟨F.gS, 3, none⟩ = some (.int .i64 ((p + (L + 2) : Nat) : Int)) := by rw [HST.out.blkS.cell, ← HK.out]; rfl
          have hcap := HST.out.cap
          have hsl := fun W => run_sl W b o src.length F.cap p (p + (L + 2)) (by omega) (by omega) (by omega)
          have hslA := fun W => run_slA W b o src.length F.cap p (p + (L + 2)) (by omega) (by omega) (by omega)
          have HCE := Lib.hid hcells
          clear eo hcells
          have hcn := HCN0.out
          rw [HK.out] at hcn
          have HCN := Lib.hid hcn
          clear hcn
          go_wp2_with fail
          go_quiet (fail)
          rw [show p + (L + 2) - p = L + 2 by omega]
          have hs5 := HST.out.drewN nq
          have hb5 := below_drewN0 HBT.out nq
          have hc5 : ∀ i (h : i < src.length), (w3.drewN nq).cell? ⟨b, o + i, none⟩ = some (.int .u8 (src[i].toNat : Int)) := HCE.out
          generalize w3.drewN nq = w5 at hs5 hb5 hc5 ⊢
          have hbl5 : b < w5.heap.size := by have := hs5.hS; have := hs5.blkS.lt; omega
          obtain ⟨hb0, hb1⟩ := HB01.out
          have hbt : ∀ i, i < src.length → w5.cell? ⟨b, o + i, none⟩ = some (.int .u8 (bt src i : Int)) := by
            intro i hi
            rw [hc5 i hi]
            simp [bt, hi, List.getD]
          have q1 : w5.cell? ⟨b, o + p + 1, none⟩ = some (.int .u8 42) := by
            rw [Nat.add_assoc, hbt (p + 1) (by omega), hb1]
            rfl
          have H5 := Lib.hid hs5
          have B5 := Lib.hid hb5
          have HC5 := Lib.hid hc5
          clear hs5 hb5 hc5 hbt HST HBT HCE d1 d3 hsl hslA
          by_cases hc0 : c = 0
          · have hid := strip_id (c := true) (nocr (src := src) (p := p) (k := p + (L + 2)) hkh (by omega) (by omega) (by rw [← HCN.out]; exact hc0))
            subst hc0
            have hcv := run_txt (cut src p (p + (L + 2))) b (o + p) (F.cap - p) w5 (cut_cells hkh HC5.out)
            rw [cut_len src p _ hkh, show p + (L + 2) - p = L + 2 by omega] at hcv
            have HID := Lib.hid hid
            clear hid hb0 hb1 q1
            go_wp2
            first | rw [Exit.noGoto_ret] | rw [jump_ret]
            go_ret
            exact ⟨nx src (nx src t), by rw [HID.out]; rfl, HG.out, HK.out, HBE.out, H5.out, B5.out, HLR.out⟩
          · have tc : decide ((c : Int) > 0) = true := by simp; omega
            have hcp : 0 < c := by omega
            clear hc0 hb0 hb1
            have hst := strip_any b (o + p) (F.cap - p) (cut src p (p + (L + 2))) true w5 hbl5 (cut_cells (by omega) HC5.out) (by rw [cut_len src p _ (by omega)]; omega)
            rw [cut_len src p _ (by omega), show p + (L + 2) - p = L + 2 by omega] at hst
            have HSP := Lib.hid hst
            clear hst
            go_wp2_with fail
            refine HSP.out.mono ?_
            rintro e w6 ⟨g6, cap6, rfl, _, hg6, hc6, hb6⟩
            have hcv := run_txt _ g6 0 cap6 w6 hc6
            have hs6 := H5.out.below hb6
            have H6 := Lib.hid hs6
            have B6 := Lib.hid (B5.out.trans (hb6.mono (by have := H5.out.hS; have := H5.out.blkS.lt; omega)))
            clear hs6 hb6 hc6 HSP
            go_wp2
            first | rw [Exit.noGoto_ret] | rw [jump_ret]
            go_ret
            exact ⟨nx src (nx src t), rfl, HG.out, HK.out, HBE.out, H6.out, B6.out, HLR.out⟩
        · have tC : ((nx src t).ch == 47) = false := by simpa using h47
          have hnx := HIN.out.next hgo (fun hh => h47 hh.2)
          rw [if_neg (by rw [HQ.out]; decide)] at hnx
          have HNX := Lib.hid hnx
          have HGN : Hid (∀ u, BkE src (nx src t) u → BkE src (nx src s) u) := Lib.hid (fun u hu => HGG.out u (hu.step hgo (fun hh => h47 hh.2)))
          clear h47 hnx
          go_wp2_with fail
          go_roundw
          case rel => exact ⟨c, nx src t, by go_num, HNX.out, HGN.out, H2.out, B2.out⟩
          case measure =>
            rw [M2.out, M1.out]
            simp only [Int.toNat_natCast]
            omega
      · have hnx := HIN.out.next hgo (fun hh => h42 hh.1)
        have HNX := Lib.hid hnx
        have tB : (t.ch == 42) = false := by simpa using h42
        have HGN : Hid (∀ u, BkE src (nx src t) u → BkE src (nx src s) u) := Lib.hid (fun u hu => HGG.out u (hu.step hgo (fun hh => h42 hh.1)))
        clear hnx h42
        by_cases h13 : t.ch = 13
        · have t3 : (t.ch == 13) = true := by simpa using h13
          have H13 := Lib.hid h13
          clear h13
          go_wp2_with fail
          refine (next_any F src t _ HS.out (by omega)).mono ?_
          rintro e w2 ⟨rfl, hs2, hb2⟩
          have H2 := Lib.hid hs2
          have B2 := Lib.hid (HB.out.trans hb2)
          have hm2 : w2.cell? ⟨F.gS, 3, none⟩ = some (.int .i64 ((nx src t).off : Int)) := by rw [hs2.blkS.cell]; rfl
          have M2 := Lib.hid hm2
          clear hs2 hb2 hm2
          go_wp2_with fail
          go_roundw
          case rel =>
            have := HNX.out
            rw [if_pos H13.out] at this
            exact ⟨c + 1, nx src t, by go_num, this, HGN.out, H2.out, B2.out⟩
          case measure =>
            rw [M2.out, M1.out]
            simp only [Int.toNat_natCast]
            omega
        · have t3 : (t.ch == 13) = false := by simpa using h13
          have H13 := Lib.hid h13
          clear h13
          go_wp2_with fail
          refine (next_any F src t _ HS.out (by omega)).mono ?_
          rintro e w2 ⟨rfl, hs2, hb2⟩
          have H2 := Lib.hid hs2
          have B2 := Lib.hid (HB.out.trans hb2)
          have hm2 : w2.cell? ⟨F.gS, 3, none⟩ = some (.int .i64 ((nx src t).off : Int)) := by rw [hs2.blkS.cell]; rfl
          have M2 := Lib.hid hm2
          clear hs2 hb2 hm2
          go_wp2_with fail
          go_roundw
          case rel =>
            have := HNX.out
            rw [if_neg H13.out] at this
            exact ⟨c, nx src t, by go_num, this, HGN.out, H2.out, B2.out⟩
          case measure =>
            rw [M2.out, M1.out]
            simp only [Int.toNat_natCast]
            omega
    · have t2 : decide (t.ch ≥ 0) = false := by simpa using hgo
      obtain ⟨hend, hlast⟩ := HIN.out.open_ (by omega)
      have hk : t.off = k := hend.same HKE.out
      have HK0 := Lib.hid hk
      have HCN0 : Hid (c = cr src (p + 2) ({ t with ec := t.ec + 1 } : St).off) := Lib.hid HIN.out.cnt
      have HG : Hid (Good src { t with ec := t.ec + 1 }) := Lib.hid HIN.out.good
      have HK : Hid (({ t with ec := t.ec + 1 } : St).off = k) := Lib.hid hk
      have HBE : Hid (({ t with ec := t.ec + 1 } : St).ec ≤ e0 + k + 1) := Lib.hid (by show t.ec + 1 ≤ e0 + k + 1; omega)
      have HLR : Hid (BkE src (nx src s) { t with ec := t.ec + 1 }) := Lib.hid (HGG.out _ ⟨t, false, BkR.eof (by omega), rfl⟩)
      clear hend hlast hk hgo
      go_wp2_with fail
      refine (error_any F.gS _ t.ec _ _ _ HS.out.blkS rfl rfl (by omega)).mono ?_
      rintro e w3 ⟨rfl, hw3⟩
      have hs3 : SC F src { t with ec := t.ec + 1 } w3 := by rw [← hw3]; exact HS.out.setEc (t.ec + 1)
      have hb3 : Below F.B w w3 := by rw [← hw3]; exact HB.out.trans (HS.out.put_below 8 _)
      have HST := Lib.hid hs3
      have HBT := Lib.hid hb3
      clear hs3 hb3 hw3 d2
      go_wp2_with fail
      go_step3
      have hkl := HKE.out.lo
      have hkh := HKE.out.hi
      obtain ⟨L, rfl⟩ : ∃ L, k = p + (L + 2) := ⟨k - p - 2, by omega⟩
      obtain ⟨b, o, eo, hbB, hcells⟩ := HST.out.srcAt.at_ (by omega)
      have d1 : w3.cell? ⟨F.gS, 1, none⟩ = some (.slice (some ⟨b, o, none⟩) src.length F.cap) := by rw [HST.out.blkS.cell, ← eo]; rfl
      have d3 : w3.cell? ⟨F.gS, 3, none⟩ = some (.int .i64 ((p + (L + 2) : Nat) : Int)) := by rw [HST.out.blkS.cell, ← HK.out]; rfl
      have hcap := HST.out.cap
      have hsl := fun W => run_sl W b o src.length F.cap p (p + (L + 2)) (by omega) (by omega) (by omega)
      have hslA := fun W => run_slA W b o src.length F.cap p (p + (L + 2)) (by omega) (by omega) (by omega)
      have HCE := Lib.hid hcells
      clear eo hcells
      have hcn := HCN0.out
      rw [HK.out] at hcn
      have HCN := Lib.hid hcn
      clear hcn
      go_wp2_with fail
      go_quiet (fail)
      rw [show p + (L + 2) - p = L + 2 by omega]
      have hs5 := HST.out.drewN nq
      have hb5 := below_drewN0 HBT.out nq
      have hc5 : ∀ i (h : i < src.length), (w3.drewN nq).cell? ⟨b, o + i, none⟩ = some (.int .u8 (src[i].toNat : Int)) := HCE.out
      generalize w3.drewN nq = w5 at hs5 hb5 hc5 ⊢
      have hbl5 : b < w5.heap.size := by have := hs5.hS; have := hs5.blkS.lt; omega
      obtain ⟨hb0, hb1⟩ := HB01.out
      have hbt : ∀ i, i < src.length → w5.cell? ⟨b, o + i, none⟩ = some (.int .u8 (bt src i : Int)) := by
        intro i hi
        rw [hc5 i hi]
        simp [bt, hi, List.getD]
      have q1 : w5.cell? ⟨b, o + p + 1, none⟩ = some (.int .u8 42) := by
        rw [Nat.add_assoc, hbt (p + 1) (by omega), hb1]
        rfl
      have H5 := Lib.hid hs5
      have B5 := Lib.hid hb5
      have HC5 := Lib.hid hc5
      clear hs5 hb5 hc5 hbt HST HBT HCE d1 d3 hsl hslA
      by_cases hc0 : c = 0
      · have hid := strip_id (c := true) (nocr (src := src) (p := p) (k := p + (L + 2)) hkh (by omega) (by omega) (by rw [← HCN.out]; exact hc0))
        subst hc0
        have hcv := run_txt (cut src p (p + (L + 2))) b (o + p) (F.cap - p) w5 (cut_cells hkh HC5.out)
        rw [cut_len src p _ hkh, show p + (L + 2) - p = L + 2 by omega] at hcv
        have HID := Lib.hid hid
        clear hid hb0 hb1 q1
        go_wp2
        first | rw [Exit.noGoto_ret] | rw [jump_ret]
        go_ret
        exact ⟨{ t with ec := t.ec + 1 }, by rw [HID.out]; rfl, HG.out, HK.out, HBE.out, H5.out, B5.out, HLR.out⟩
      · have tc : decide ((c : Int) > 0) = true := by simp; omega
        have hcp : 0 < c := by omega
        clear hc0 hb0 hb1
        have hst := strip_any b (o + p) (F.cap - p) (cut src p (p + (L + 2))) true w5 hbl5 (cut_cells (by omega) HC5.out) (by rw [cut_len src p _ (by omega)]; omega)
        rw [cut_len src p _ (by omega), show p + (L + 2) - p = L + 2 by omega] at hst
        have HSP := Lib.hid hst
        clear hst
        go_wp2_with fail
        refine HSP.out.mono ?_
        rintro e w6 ⟨g6, cap6, rfl, _, hg6, hc6, hb6⟩
        have hcv := run_txt _ g6 0 cap6 w6 hc6
        have hs6 := H5.out.below hb6
        have H6 := Lib.hid hs6
        have B6 := Lib.hid (B5.out.trans (hb6.mono (by have := H5.out.hS; have := H5.out.blkS.lt; omega)))
        clear hs6 hb6 hc6 HSP
        go_wp2
        first | rw [Exit.noGoto_ret] | rw [jump_ret]
        go_ret
        exact ⟨{ t with ec := t.ec + 1 }, rfl, HG.out, HK.out, HBE.out, H6.out, B6.out, HLR.out⟩


theorem least_or {P : Nat → Prop} (a : Nat) : ∀ d, (∃ i, a ≤ i ∧ i < a + d ∧ P i ∧ ∀ j, a ≤ j → j < i → ¬ P j) ∨ ∀ i, a ≤ i → i < a + d → ¬ P i
  | 0 => Or.inr (fun i h1 h2 => by omega)
  | d + 1 => by
    rcases least_or (P := P) a d with ⟨i, h1, h2, h3, h4⟩ | h
    · exact Or.inl ⟨i, h1, by omega, h3, h4⟩
    · by_cases hp : P (a + d)
      · exact Or.inl ⟨a + d, by omega, by omega, hp, fun j j1 j2 => h j j1 j2⟩
      · refine Or.inr (fun i h1 h2 => ?_)
        by_cases e : i = a + d
        · rw [e]
          exact hp
        · exact h i h1 (by omega)
theorem lcEnd_ex (src : List UInt8) (p : Nat) (hp : p + 2 ≤ src.length) : ∃ k, LcEnd src p k := by
  rcases least_or (P := fun i => bt src i = 10) (p + 2) (src.length - (p + 2)) with ⟨i, h1, h2, h3, h4⟩ | h
  · exact ⟨i, h1, by omega, h4, fun _ => h3⟩
  · exact ⟨src.length, hp, Nat.le_refl _, fun i h1 h2 => h i h1 (by omega), fun h => by omega⟩
theorem bcEnd_ex (src : List UInt8) (p : Nat) (hp : p + 2 ≤ src.length) : ∃ k b, BcEnd src p k b := by
  rcases least_or (P := fun i => ss src i) (p + 2) (src.length - (p + 2)) with ⟨i, h1, h2, h3, h4⟩ | h
  · refine ⟨i + 2, true, by omega, by have := h3.2.1; omega, fun q q1 q2 => h4 q q1 (by omega), fun _ => ⟨by omega, ?_⟩, fun h => (nomatch h)⟩
    rw [show i + 2 - 2 = i by omega]
    exact h3
  · have hn : ∀ i, p + 2 ≤ i → ¬ ss src i := fun i h1 h2 => h i h1 (by have := h2.2.1; omega) h2
    exact ⟨src.length, false, hp, Nat.le_refl _, fun i h1 _ => hn i h1, fun h => (nomatch h), fun _ => ⟨rfl, hn⟩⟩
/-- scanComment, its opening slash consumed -/
def ComR (src : List UInt8) (s u : St) (txt : List UInt8) : Prop :=
  (s.ch = 47 ∧ LnR src (nx src s) u ∧ txt = filt (cut src (s.off - 1) u.off)) ∨ (s.ch = 42 ∧ BkE src (nx src s) u ∧ txt = strip (cut src (s.off - 1) u.off) true)
def ComPostA (F : Fix) (src : List UInt8) (s : St) (w : World) (e : Ending) (w' : World) : Prop :=
  ∃ (u : St) (txt : List UInt8), ComR src s u txt ∧ Good src u ∧ s.off < u.off ∧ u.ec ≤ s.ec + u.off + 1 ∧ e = .returned (.string ⟨txt.toArray⟩) ∧ SC F src u w' ∧ Below F.B w w'
theorem comment_any (F : Fix) (src : List UInt8) (s : St) (w : World) (h : SC F src s w) (hg : Good src s) (h1 : 1 ≤ s.off) (hb0 : bt src (s.off - 1) = 47) (hch : s.ch = 47 ∨ s.ch = 42) (hec : s.ec ≤ 100000000000) :
    Calls Tryf.prog 45 #[.pointer (some ⟨F.gS, 0, none⟩)] w (ComPostA F src s w) := by
  obtain ⟨p, hp⟩ : ∃ p, s.off = p + 1 := ⟨s.off - 1, by omega⟩
  have hpp : s.off - 1 = p := by omega
  rw [hpp] at hb0
  rcases hch with hc | hc
  · have hx := (Good.ascii hg 47 (by omega)).1 hc
    rw [hp] at hx
    obtain ⟨k, hk⟩ := lcEnd_ex src p (by omega)
    refine (comLineR_any F src s p k w h hg hp hb0 hx.2 hx.1 hk hec).mono ?_
    rintro e w' ⟨t, rfl, hgt, rfl, he, hs, hb, hr⟩
    exact ⟨t, _, Or.inl ⟨hc, hr, by rw [hpp]⟩, hgt, by have := hk.lo; omega, he, rfl, hs, hb⟩
  · have hx := (Good.ascii hg 42 (by omega)).1 hc
    rw [hp] at hx
    obtain ⟨k, b, hk⟩ := bcEnd_ex src p (by omega)
    refine (comBlkR_any F src s p k b w h hg hp hb0 hx.2 hx.1 hk hec).mono ?_
    rintro e w' ⟨t, rfl, hgt, rfl, he, hs, hb, hr⟩
    exact ⟨t, _, Or.inr ⟨hc, hr, by rw [hpp]⟩, hgt, by have := hk.lo; omega, he, rfl, hs, hb⟩
end Go.Proofs.YtamfekpcoppbgaaFmt
