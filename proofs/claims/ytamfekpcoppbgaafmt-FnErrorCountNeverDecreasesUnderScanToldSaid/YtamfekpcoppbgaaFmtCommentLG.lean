/-
  scanComment at a line comment: its text without carriage returns, and where it stops. Conditions: the scanner stands on the second slash.
-/
import Derived.Test.YtamfekpcoppbgaaFmtCommentMG
import Derived.ScopeJumps
import Derived.WalkMore
namespace Go.Proofs.YtamfekpcoppbgaaFmt
open Go.RowKit
set_option maxRecDepth 100000
set_option linter.unusedVariables false

/-- a scope left by jumps ahead to one label: behind the label the walk goes on at the frame at hand -/
theorem wp_scope_fwd {P : Program} {a : Act} {w : World} {Q : Exit → Act → World → Prop} {c rest : Code} (l : Nat) (hf : findLabel c l = some rest) (first : c.wp P (Exit.jump l (fun a w => rest.wp P (Exit.noGoto Q) a w) Q) a w) : (Code.scope c).wp P Q a w :=
  wp_scope_jumps l (fun a w => rest.wp P (Exit.noGoto Q) a w) (fun _ _ => 0) hf first (fun a w h => Code.wp_mono (fun e a w hq => by cases e <;> first | exact hq | exact hq.elim) h)

theorem run_slo (W : World) (b o n cap k : Nat) (hk : k ≤ cap) : (Instr.slice 22 (.slice (some ⟨b, o, none⟩) n cap) none (some (.int .i64 (k : Int))) none).run Tryf.prog W = .ok (.slice (some ⟨b, o, none⟩) k cap) W := by
  rw [run_slice_h W 22 _ n cap (by rw [el_u8]; exact Tryf.underlying22) .i64 _ (by omega) (by omega), el_u8]
  have hs : (sizeOf 5).run Tryf.prog W = .ok 1 W := by kernel_rfl
  rw [hs]
  simp [Result.andThen, sliced, Addr.add]
theorem run_sloA (W : World) (b o n cap k : Nat) (hk : k ≤ cap) : (Instr.sliceAt 22 (.slice (some ⟨b, o, none⟩) n cap) none (some (.int .i64 (k : Int))) none).run Tryf.prog W = .ok (.slice (some ⟨b, o, none⟩) k cap) W := by
  rw [run_sliceAt_slice W _ _ _ _ _ (by rw [el_u8]; exact Tryf.underlying22)]
  exact run_slo W b o n cap k hk
/-- bytes in memory as a string -/
theorem run_txt (l : List UInt8) (b o cap : Nat) (W : World) (hc : ∀ i (h : i < l.length), W.cell? ⟨b, o + i, none⟩ = some (.int .u8 (l[i].toNat : Int))) :
    (convert 22 9 (.slice (some ⟨b, o, none⟩) l.length cap)).run Tryf.prog W = .ok (.string ⟨l.toArray⟩) W := by
  refine run_convert_bytes_back W _ _ 5 ⟨b, o, none⟩ _ l Tryf.underlying22 Tryf.underlying5 Tryf.underlying9 (fun i hi => ?_)
  have ea : (⟨b, o, none⟩ : Addr).add i = ⟨b, o + i, none⟩ := by unfold Addr.add; split <;> simp_all
  rw [ea, hc i hi]
theorem cut_cells {W : World} {src : List UInt8} {b o p k : Nat} (hk : k ≤ src.length) (hc : ∀ i (h : i < src.length), W.cell? ⟨b, o + i, none⟩ = some (.int .u8 (src[i].toNat : Int))) :
    ∀ i (h : i < (cut src p k).length), W.cell? ⟨b, o + p + i, none⟩ = some (.int .u8 ((cut src p k)[i].toNat : Int)) := by
  intro i hi
  have hi2 := hi
  rw [cut_len src p k hk] at hi2
  rw [Nat.add_assoc, hc (p + i) (by omega)]
  have ee : (cut src p k)[i] = src[p + i]'(by omega) := by simp [cut]
  rw [ee]

/-- what scanComment leaves: the text, and a state that stands at the end -/
def ComPost (F : Fix) (src : List UInt8) (txt : List UInt8) (k e0 : Nat) (w : World) (e : Ending) (w' : World) : Prop :=
  ∃ t : St, e = .returned (.string ⟨txt.toArray⟩) ∧ Good src t ∧ t.off = k ∧ t.ec ≤ e0 + k + 1 ∧ SC F src t w' ∧ Below F.B w w'

set_option maxHeartbeats 4000000 in
theorem comLine_any (F : Fix) (src : List UInt8) (s : St) (p k : Nat) (w : World) (h : SC F src s w) (hg : Good src s) (hp : s.off = p + 1) (hb0 : bt src p = 47) (hb1 : bt src (p + 1) = 47) (hlt1 : p + 1 < src.length) (hke : LcEnd src p k) (hec : s.ec ≤ 1000000000) :
    Calls Tryf.prog 45 #[.pointer (some ⟨F.gS, 0, none⟩)] w (ComPost F src (filt (cut src p k)) k s.ec w) := by
  have hch : s.ch = 47 := (Good.ascii hg 47 (by omega)).2 ⟨by omega, by rw [hp]; exact hb1⟩
  have st := step_of hg (by omega)
  have ho1 := st.one (by rw [hp]; omega)
  have hstart : LcIn src p s.ec 0 (nx src s) := ⟨st.good, by omega, fun i i1 i2 => by omega, (cr_start src (p + 2) _ (by omega)).symm, by have := st.ec; omega⟩
  have c2 : w.cell? ⟨F.gS, 2, none⟩ = some (.int .i32 47) := by rw [h.blkS.cell, ← hch]; rfl
  have c3 : w.cell? ⟨F.gS, 3, none⟩ = some (.int .i64 ((p + 1 : Nat) : Int)) := by rw [h.blkS.cell, ← hp]; rfl
  have hlen := h.len
  obtain ⟨e0, he0⟩ : ∃ e0, s.ec = e0 := ⟨_, rfl⟩
  rw [he0] at hstart hec ⊢
  have H := Lib.hid h
  have HE := Lib.hid he0
  have HI := Lib.hid hstart
  have HKE := Lib.hid hke
  have HB01 := Lib.hid (And.intro hb0 hb1)
  clear h hg hp hb0 hb1 hke hch st ho1 hstart he0
  go_enter Tryf.func45, Tryf.ntmps45
  go_wp2
  refine wp_scope_fwd 0 rfl ?_
  go_wp2_with fail
  refine (next_any F src s _ H.out (by rw [HE.out]; omega)).mono ?_
  rintro e w1 ⟨rfl, hs1, hb1⟩
  have H1 := Lib.hid hs1
  have B1 := Lib.hid hb1
  clear hs1 hb1 H c2 c3
  go_wp2_with fail
  go_loopw [4] (fun v wr => ∃ (c : Nat) (t : St), v = .int .i64 c ∧ LcIn src p e0 c t ∧ SC F src t wr ∧ Below F.B w wr) (fun _ wr => src.length + 1 - ((match wr.cell? ⟨F.gS, 3, none⟩ with | some (.int _ z) => z | _ => 0) : Int).toNat)
  case atStart => exact ⟨0, _, rfl, HI.out, H1.out, B1.out⟩
  case round =>
    obtain ⟨c, t, rfl, hin, hs, hb⟩ := hrel
    have d2 : wr.cell? ⟨F.gS, 2, none⟩ = some (.int .i32 t.ch) := by rw [hs.blkS.cell]; rfl
    have d3 : wr.cell? ⟨F.gS, 3, none⟩ = some (.int .i64 (t.off : Int)) := by rw [hs.blkS.cell]; rfl
    have htl := hs.off
    have hcc : c ≤ 1048576 := by
      rw [hin.cnt]
      have := cr_le src (p + 2) t.off
      omega
    have hte := hin.ec
    have M1 := Lib.hid d3
    have HS := Lib.hid hs
    have HB := Lib.hid hb
    have HIN := Lib.hid hin
    clear hs hb hin H1 B1 HI
    by_cases hgo : t.ch ≠ 10 ∧ 0 ≤ t.ch
    · have t1 : (t.ch != 10) = true := by simpa using hgo.1
      have t2 : decide (t.ch ≥ 0) = true := by simpa using hgo.2
      have hnx := HIN.out.next hgo.2 hgo.1
      have HNX := Lib.hid hnx.1
      have hfar := hnx.2.1
      have hltn := hnx.2.2
      clear hgo d3 hnx
      by_cases h13 : t.ch = 13
      · have t3 : (t.ch == 13) = true := by simpa using h13
        have H13 := Lib.hid h13
        clear h13
        go_wp2_with fail
        refine (next_any F src t _ HS.out (by omega)).mono ?_
        rintro e w2 ⟨rfl, hs2, hb2⟩
        have H2 := Lib.hid hs2
        have B2 := Lib.hid (HB.out.trans hb2)
        have hm2 : w2.cell? ⟨F.gS, 3, none⟩ = some (.int .i64 ((nx src t).off : Int)) := by rw [hs2.blkS.cell]; rfl
        have M2 := Lib.hid hm2
        clear hs2 hb2 hm2
        go_wp2_with fail
        go_roundw
        case rel =>
          have := HNX.out
          rw [if_pos H13.out] at this
          exact ⟨c + 1, nx src t, by go_num, this, H2.out, B2.out⟩
        case measure =>
          rw [M2.out, M1.out]
          simp only [Int.toNat_natCast]
          omega
      · have t3 : (t.ch == 13) = false := by simpa using h13
        have H13 := Lib.hid h13
        clear h13
        go_wp2_with fail
        refine (next_any F src t _ HS.out (by omega)).mono ?_
        rintro e w2 ⟨rfl, hs2, hb2⟩
        have H2 := Lib.hid hs2
        have B2 := Lib.hid (HB.out.trans hb2)
        have hm2 : w2.cell? ⟨F.gS, 3, none⟩ = some (.int .i64 ((nx src t).off : Int)) := by rw [hs2.blkS.cell]; rfl
        have M2 := Lib.hid hm2
        clear hs2 hb2 hm2
        go_wp2_with fail
        go_roundw
        case rel =>
          have := HNX.out
          rw [if_neg H13.out] at this
          exact ⟨c, nx src t, by go_num, this, H2.out, B2.out⟩
        case measure =>
          rw [M2.out, M1.out]
          simp only [Int.toNat_natCast]
          omega
    · have hend := LcIn.done HIN.out (by
        by_cases h1 : t.ch = 10
        · exact Or.inl h1
        · exact Or.inr (by have : ¬ 0 ≤ t.ch := fun hh => hgo ⟨h1, hh⟩
                           omega))
      have hk : t.off = k := hend.same HKE.out
      have hkl := HKE.out.lo
      have hkh := HKE.out.hi
      obtain ⟨L, rfl⟩ : ∃ L, k = p + (L + 2) := ⟨k - p - 2, by omega⟩
      rw [hk] at d3
      obtain ⟨b, o, eo, hbB, hcells⟩ := HS.out.srcAt.at_ (by omega)
      have d1 : wr.cell? ⟨F.gS, 1, none⟩ = some (.slice (some ⟨b, o, none⟩) src.length F.cap) := by rw [HS.out.blkS.cell, ← eo]; rfl
      have hcap := HS.out.cap
      have hsl := fun W => run_sl W b o src.length F.cap p (p + (L + 2)) (by omega) (by omega) (by omega)
      have hslA := fun W => run_slA W b o src.length F.cap p (p + (L + 2)) (by omega) (by omega) (by omega)
      rw [show p + (L + 2) - p = L + 2 by omega] at hsl hslA
      have HK := Lib.hid hk
      have HCE := Lib.hid hcells
      clear hend hk eo hcells
      have tt : (t.ch != 10) = false ∨ ((t.ch != 10) = true ∧ decide (t.ch ≥ 0) = false) := by
        by_cases h1 : t.ch = 10
        · exact Or.inl (by simpa using h1)
        · exact Or.inr ⟨by simpa using h1, by
            have : ¬ 0 ≤ t.ch := fun hh => hgo ⟨h1, hh⟩
            simpa using this⟩
      clear hgo
      rcases tt with t1 | ⟨t1, t2⟩
      all_goals
        go_wp2_with fail
        apply wp_goto
        refine And.intro rfl ?_
        refine Hid.out ?_
        refine Lib.hid ?_
        show Code.wp _ _ _ _ _
        have hcn := HIN.out.cnt
        rw [HK.out] at hcn
        have HCN := Lib.hid hcn
        clear hcn d2 t1
        go_wp2_with fail
        go_quiet (fail)
        rw [show p + (L + 2) - p = L + 2 by omega]
        have hs5 := HS.out.drewN nq
        have hb5 := below_drewN0 HB.out nq
        have hc5 : ∀ i (h : i < src.length), (wr.drewN nq).cell? ⟨b, o + i, none⟩ = some (.int .u8 (src[i].toNat : Int)) := HCE.out
        generalize wr.drewN nq = w5 at hs5 hb5 hc5 ⊢
        have hbl5 : b < w5.heap.size := by have := hs5.hS; have := hs5.blkS.lt; omega
        obtain ⟨hb0, hb1⟩ := HB01.out
        have hbt : ∀ i, i < src.length → w5.cell? ⟨b, o + i, none⟩ = some (.int .u8 (bt src i : Int)) := by
          intro i hi
          rw [hc5 i hi]
          simp [bt, hi, List.getD]
        have q1 : w5.cell? ⟨b, o + p + 1, none⟩ = some (.int .u8 47) := by
          rw [Nat.add_assoc, hbt (p + 1) (by omega), hb1]
          rfl
        have q2 : w5.cell? ⟨b, o + p + (L + 1), none⟩ = some (.int .u8 (bt src (p + (L + 1)) : Int)) := by
          rw [Nat.add_assoc, hbt (p + (L + 1)) (by omega)]
        have hbe : t.ec ≤ e0 + (p + (L + 2)) + 1 := by
          have := HK.out
          omega
        have H5 := Lib.hid hs5
        have B5 := Lib.hid hb5
        have HC5 := Lib.hid hc5
        clear hs5 hb5 hc5 hbt HS HB HCE d1 d3 M1 hsl hslA
        by_cases hc0 : c = 0
        · have hid := filt_id (nocr (src := src) (p := p) (k := p + (L + 2)) hkh (by omega) (by omega) (by rw [← HCN.out]; exact hc0))
          subst hc0
          have hcv := run_txt (cut src p (p + (L + 2))) b (o + p) (F.cap - p) w5 (cut_cells hkh HC5.out)
          rw [cut_len src p _ hkh, show p + (L + 2) - p = L + 2 by omega] at hcv
          have HID := Lib.hid hid
          clear hid hb0 hb1 q1 q2
          go_wp2
          rw [Exit.noGoto_ret]
          go_ret
          exact ⟨t, by rw [HID.out]; rfl, HIN.out.good, HK.out, by omega, H5.out, B5.out⟩
        · have tc : decide ((c : Int) > 0) = true := by simp; omega
          have hcp : 0 < c := by omega
          clear hc0
          by_cases h13 : bt src (p + (L + 1)) = 13
          · obtain ⟨L', rfl⟩ : ∃ L', L = L' + 1 := by
              rcases L with _ | L'
              · rw [Nat.zero_add] at h13
                omega
              · exact ⟨L', rfl⟩
            have hfl : filt (cut src p (p + (L' + 1 + 2))) = filt (cut src p (p + (L' + 1 + 1))) := filt_last src p (p + (L' + 1 + 1)) (by omega) (by omega) h13
            have HFL := Lib.hid hfl
            have hcs : cr src (p + 2) (p + (L' + 1 + 2)) = cr src (p + 2) (p + (L' + 1 + 1)) + 1 := by
              show cr src (p + 2) (p + (L' + 1 + 1)) + (if p + 2 ≤ p + (L' + 1 + 1) ∧ bt src (p + (L' + 1 + 1)) = 13 then 1 else 0) = _
              rw [if_pos ⟨by omega, h13⟩]
            have t13 : ((bt src (p + (L' + 1 + 1)) : Int) == 13) = true := by simp [h13]
            have hsl := fun W => run_slo W b (o + p) (L' + 1 + 2) (F.cap - p) (L' + 1 + 1) (by omega)
            have hslA := fun W => run_sloA W b (o + p) (L' + 1 + 2) (F.cap - p) (L' + 1 + 1) (by omega)
            by_cases hc1 : c = 1
            · have hid := filt_id (nocr (src := src) (p := p) (k := p + (L' + 1 + 1)) (by omega) (by omega) (by omega) (by have := HCN.out; omega))
              have hcv := run_txt (cut src p (p + (L' + 1 + 1))) b (o + p) (F.cap - p) w5 (cut_cells (by omega) HC5.out)
              rw [cut_len src p _ (by omega), show p + (L' + 1 + 1) - p = L' + 2 by omega] at hcv
              have HID := Lib.hid hid
              subst hc1
              clear hid hfl hb0 hb1 h13 hcs
              go_wp2
              rw [Exit.noGoto_ret]
              go_ret
              exact ⟨t, by rw [HFL.out, HID.out]; rfl, HIN.out.good, HK.out, by omega, H5.out, B5.out⟩
            · have hcI : (1 : Int) < (c : Int) := by omega
              have hcI2 : (0 : Int) < (c : Int) - 1 := by omega
              have hcN : 1 < c := by omega
              clear hfl hc1 hb0 hb1 h13 hcs
              have hst := strip_any b (o + p) (F.cap - p) (cut src p (p + (L' + 1 + 1))) false w5 hbl5 (cut_cells (by omega) HC5.out) (by rw [cut_len src p _ (by omega)]; omega)
              rw [cut_len src p _ (by omega), show p + (L' + 1 + 1) - p = L' + 2 by omega] at hst
              have HST := Lib.hid hst
              clear hst
              go_wp2_with fail
              refine HST.out.mono ?_
              rintro e w6 ⟨g6, cap6, rfl, _, hg6, hc6, hb6⟩
              have hcv := run_txt _ g6 0 cap6 w6 hc6
              have hs6 := H5.out.below hb6
              have H6 := Lib.hid hs6
              have B6 := Lib.hid (B5.out.trans (hb6.mono (by have := H5.out.hS; have := H5.out.blkS.lt; omega)))
              have HSF := Lib.hid (strip_filt (cut src p (p + (L' + 1 + 1))))
              clear hs6 hb6 hc6 HST
              go_wp2
              rw [Exit.noGoto_ret]
              go_ret
              exact ⟨t, by rw [HFL.out, ← HSF.out]; rfl, HIN.out.good, HK.out, by omega, H6.out, B6.out⟩
          · have t13 : ((bt src (p + (L + 1)) : Int) == 13) = false := by simp; omega
            clear h13 hb0 hb1
            have hst := strip_any b (o + p) (F.cap - p) (cut src p (p + (L + 2))) false w5 hbl5 (cut_cells (by omega) HC5.out) (by rw [cut_len src p _ (by omega)]; omega)
            rw [cut_len src p _ (by omega), show p + (L + 2) - p = L + 2 by omega] at hst
            have HST := Lib.hid hst
            clear hst
            go_wp2_with fail
            refine HST.out.mono ?_
            rintro e w6 ⟨g6, cap6, rfl, _, hg6, hc6, hb6⟩
            have hcv := run_txt _ g6 0 cap6 w6 hc6
            have hs6 := H5.out.below hb6
            have H6 := Lib.hid hs6
            have B6 := Lib.hid (B5.out.trans (hb6.mono (by have := H5.out.hS; have := H5.out.blkS.lt; omega)))
            have HSF := Lib.hid (strip_filt (cut src p (p + (L + 2))))
            clear hs6 hb6 hc6 HST
            go_wp2
            rw [Exit.noGoto_ret]
            go_ret
            exact ⟨t, by rw [← HSF.out]; rfl, HIN.out.good, HK.out, by omega, H6.out, B6.out⟩

end Go.Proofs.YtamfekpcoppbgaaFmt
