/-
  The law's own tokenizer, walked. Conditions: at most 2^16 bytes, all of the small language.
-/
import Derived.Test.YtamfekpcoppbgaaFmtDigA
import Derived.Deep.DeepCutAuto
namespace Go.Proofs.YtamfekpcoppbgaaFmt
open Go.RowKit
set_option maxRecDepth 100000
set_option linter.unusedVariables false

theorem sk_true {c : Nat} {ins : Bool} (h : c = 32 ∨ c = 9 ∨ c = 13 ∨ (c = 10 ∧ ins = false)) : blB ins c = true := decide_eq_true h
theorem sk_false {c : Nat} {ins : Bool} (h : ¬ (c = 32 ∨ c = 9 ∨ c = 13 ∨ (c = 10 ∧ ins = false))) : blB ins c = false := decide_eq_false h
def ToksPost (src : List UInt8) (w : World) (e : Ending) (w' : World) : Prop :=
  ∃ (g6 c6 g7 c7 g8 c8 n : Nat) (T : Tks), e = .returned (.tuple #[.slice (some ⟨g6, 0, none⟩) n c6, .slice (some ⟨g7, 0, none⟩) n c7, .slice (some ⟨g8, 0, none⟩) n c8]) ∧ RT w' w.heap.size g6 c6 g7 c7 g8 c8 n T ∧ MAll src 0 false T ∧ n ≤ src.length + 2 ∧ Below w.heap.size w w'
set_option maxHeartbeats 16000000 in
theorem toks_any (oA : Option Addr) (cap : Nat) (src : List UInt8) (w : World) (hsrc : SrcAt w w.heap.size oA src) (hD : DpS src) (hn : src.length ≤ 65536) (hcap : src.length ≤ cap) :
    Calls Tryf.prog 15 #[.slice oA src.length cap] w (ToksPost src w) := by
  have hm6 := fun W => dm_int (2 * src.length + 2) (by omega) W
  have hm7 := fun W => dm_str (2 * src.length + 2) (by omega) W
  simp only [Int.natCast_add, Int.natCast_mul, Int.cast_ofNat_Int] at hm6 hm7
  have r0 : R3 (((w.alloc (.cells (madeCells #[.int .i64 0] (2 * src.length + 2)) 3)).alloc (.cells (madeCells #[.string ⟨#[]⟩] (2 * src.length + 2)) 9)).alloc (.cells (madeCells #[.int .i64 0] (2 * src.length + 2)) 3)) w.heap.size w.heap.size (2 * src.length + 2) 0 (kC []) (w.heap.size + 1) (2 * src.length + 2) 0 (lC []) (w.heap.size + 2) (2 * src.length + 2) 0 (oC []) := by
    have z1 : (w.alloc (.cells (madeCells #[.int .i64 0] (2 * src.length + 2)) 3)).heap.size = w.heap.size + 1 := by simp
    have a6 := rw_new (w := w) (e := 3) (z := .int .i64 0) (B := w.heap.size) (k := 2 * src.length + 2) rfl (Nat.le_refl _) (by omega)
    generalize w.alloc (.cells (madeCells #[.int .i64 0] (2 * src.length + 2)) 3) = w1 at *
    have z2 : (w1.alloc (.cells (madeCells #[.string ⟨#[]⟩] (2 * src.length + 2)) 9)).heap.size = w.heap.size + 2 := by simp [z1]
    have a7 := rw_new (w := w1) (e := 9) (z := .string ⟨#[]⟩) (B := w.heap.size) (k := 2 * src.length + 2) rfl (by omega) (by omega)
    have a6' := a6.keep (Below.heap_alloc w1 (.cells (madeCells #[.string ⟨#[]⟩] (2 * src.length + 2)) 9) _ a6.lt) (by simp)
    rw [z1] at a7
    generalize w1.alloc (.cells (madeCells #[.string ⟨#[]⟩] (2 * src.length + 2)) 9) = w2 at *
    have a8 := rw_new (w := w2) (e := 3) (z := .int .i64 0) (B := w.heap.size) (k := 2 * src.length + 2) rfl (by omega) (by omega)
    rw [z2] at a8
    exact ⟨a6'.keep (Below.heap_alloc w2 _ _ a6'.lt) (by simp), a7.keep (Below.heap_alloc w2 _ _ a7.lt) (by simp), a8, by omega, by omega, by omega⟩
  have b0 : Below w.heap.size w (((w.alloc (.cells (madeCells #[.int .i64 0] (2 * src.length + 2)) 3)).alloc (.cells (madeCells #[.string ⟨#[]⟩] (2 * src.length + 2)) 9)).alloc (.cells (madeCells #[.int .i64 0] (2 * src.length + 2)) 3)) := (((Below.refl w.heap.size w).alloc (Nat.le_refl _) _).alloc (by simp) _).alloc (by simp; omega) _
  have RR := Lib.hid r0
  have BB := Lib.hid b0
  have HS := Lib.hid hsrc
  have HD := Lib.hid hD
  have HC00 : ∀ b o, oA = some ⟨b, o, none⟩ → ∀ i (h : i < src.length), w.cell? ⟨b, o + i, none⟩ = some (.int .u8 (src[i].toNat : Int)) := fun b o e i h => by
    obtain ⟨b2, o2, e2, _, hc⟩ := hsrc.at_ (by omega)
    rw [e] at e2
    injection e2 with e2
    injection e2 with e3 e4
    rw [e3, e4]
    exact hc i h
  have HB00 : ∀ b o, oA = some ⟨b, o, none⟩ → 0 < src.length → b < w.heap.size := fun b o e h => by
    obtain ⟨b2, o2, e2, hb2, hc⟩ := hsrc.at_ h
    rw [e] at e2
    injection e2 with e2
    injection e2 with e3 e4
    rw [e3]
    exact hb2
  have HX0 := Lib.hid HC00
  have HX1 := Lib.hid HB00
  clear hsrc hD r0 b0 HC00 HB00
  go_enter Tryf.func15, Tryf.ntmps15
  go_wp2_with fail
  generalize hw3 : ((w.alloc (.cells (madeCells #[.int .i64 0] (2 * src.length + 2)) 3)).alloc (.cells (madeCells #[.string ⟨#[]⟩] (2 * src.length + 2)) 9)).alloc (.cells (madeCells #[.int .i64 0] (2 * src.length + 2)) 3) = w3 at RR BB
  clear hm6 hm7
  go_loopw [6, 7, 8, 9, 10] (fun v6 v7 v8 v9 v10 wr => ∃ (i n : Nat) (ins : Bool) (T : Tks) (g6 c6 g7 c7 g8 c8 : Nat), v6 = .slice (some ⟨g6, 0, none⟩) n c6 ∧ v7 = .slice (some ⟨g7, 0, none⟩) n c7 ∧ v8 = .slice (some ⟨g8, 0, none⟩) n c8 ∧ v9 = .bool ins ∧ v10 = .int .i64 (i : Int) ∧ i ≤ src.length ∧ n ≤ i ∧ RT wr w.heap.size g6 c6 g7 c7 g8 c8 n T ∧ Sofar src T i ins ∧ Below w.heap.size w wr) (fun _ _ _ _ v10 _ => src.length - (intOf v10).toNat)
  case atStart => exact ⟨0, 0, false, [], _, _, _, _, _, _, by first | rfl | simp, by first | rfl | simp, by first | rfl | simp, rfl, rfl, Nat.zero_le _, Nat.le_refl _, ⟨rfl, by first | exact RR.out | (simp only [hw3]; exact RR.out)⟩, fun T' h => h, by first | exact BB.out | (simp only [hw3]; exact BB.out)⟩
  case round =>
    obtain ⟨i, n, ins, T, g6, c6, g7, c7, g8, c8, rfl, rfl, rfl, rfl, rfl, hi, hni, ⟨hTn, hr⟩, hso, hb⟩ := hrel
    clear RR BB hw3
    have R0 := Lib.hid hr
    have B0 := Lib.hid hb
    have HSO := Lib.hid hso
    have HTL := Lib.hid hTn
    have S0 := Lib.hid (HS.out.keep hb.block)
    clear hr hb hso hTn
    go_wp2_with fail
    go_loopw [10] (fun v10 wx => ∃ p : Nat, v10 = .int .i64 (p : Int) ∧ i ≤ p ∧ p ≤ src.length ∧ (∀ q, i ≤ q → q < p → blB ins (bt src q) = true) ∧ wr = wx) (fun v10 _ => src.length - (intOf v10).toNat)
    case atStart => exact ⟨i, rfl, Nat.le_refl _, hi, fun q h1 h2 => by omega, rfl⟩
    case round =>
      obtain ⟨p, rfl, hip, hp, hall, rfl⟩ := hrel
      have HALL := Lib.hid hall
      clear hall
      by_cases hlt : p < src.length
      · obtain ⟨b, o, rfl, hbb, hcc⟩ := S0.out.at_ (by omega)
        obtain ⟨c, hcd⟩ : ∃ c, bt src p = c := ⟨_, rfl⟩
        have HCC : Hid (∀ q, q < src.length → wr.cell? ⟨b, o + q, none⟩ = some (.int .u8 (bt src q : Int))) := Lib.hid (by
          intro q hq
          rw [hcc q hq]
          unfold bt
          simp [List.getD, hq])
        have HC0 : Hid (∀ i (h : i < src.length), w.cell? ⟨b, o + i, none⟩ = some (.int .u8 (src[i].toNat : Int))) := Lib.hid (HX0.out b o rfl)
        have hbw : b < w.heap.size := HX1.out b o rfl (by omega)
        have hc1 : wr.cell? ⟨b, o + p, none⟩ = some (.int .u8 (c : Int)) := by rw [HCC.out p hlt, hcd]
        have hu : c < 256 := by rw [← hcd]; exact bt_lt _ _
        have HCD := Lib.hid hcd
        have tl : decide ((p : Int) < (src.length : Int)) = true := decide_eq_true (by omega)
        clear hcc hcd
        go_upto_region 7 with fail
        go_cut [27, 28, 29, 30, 31, 32, 33, 34, 35, 36, 37, 38, 39, 40, 41, 42, 43, 44, 45, 46, 47, 48, 49, 50, 51, 52, 53, 54, 55, 56, 57, 58, 59, 60, 61] (fun v27 v28 v29 v30 v31 v32 v33 v34 v35 v36 v37 v38 v39 v40 v41 v42 v43 v44 v45 v46 v47 v48 v49 v50 v51 v52 v53 v54 v55 v56 v57 v58 v59 v60 v61 wx => v61 = .bool (blB ins c) ∧ wr = wx)
        case first =>
          by_cases h32 : c = 32
          · subst h32
            go_wp2_with fail
            go_meet
            exact ⟨by rw [sk_true (by simp)], rfl⟩
          have t32 : ((c : Int) == 32) = false := by simp; omega
          by_cases h9 : c = 9
          · subst h9
            go_wp2_with fail
            go_meet
            exact ⟨by rw [sk_true (by simp)], rfl⟩
          have t9 : ((c : Int) == 9) = false := by simp; omega
          by_cases h13 : c = 13
          · subst h13
            go_wp2_with fail
            go_meet
            exact ⟨by rw [sk_true (by simp)], rfl⟩
          have t13 : ((c : Int) == 13) = false := by simp; omega
          by_cases h10 : c = 10
          · subst h10
            clear t32 t9 t13
            cases ins
            · go_wp2_with fail
              go_meet
              exact ⟨by rw [sk_true (by simp)], rfl⟩
            · go_wp2_with fail
              go_meet
              exact ⟨by rw [sk_false (by simp)], rfl⟩
          have t10 : ((c : Int) == 10) = false := by simp; omega
          have E1 := Lib.hid (sk_false (c := c) (ins := ins) (by omega))
          clear h32 h9 h13 h10
          go_wp2_with fail
          go_meet
          exact ⟨by rw [E1.out], rfl⟩
        case rest =>
        obtain ⟨rfl, rfl⟩ := hcut
        rcases hbl : blB ins c with _ | _
        · have HRUN : Hid (RunTo src (blB ins) i p) := Lib.hid ⟨hip, hp, HALL.out, fun _ => by rw [HCD.out]; exact hbl⟩
          have hdp : dpB c = true := by rw [← HCD.out]; exact HD.out p hlt
          have hnb : ¬ (c = 32 ∨ c = 9 ∨ c = 13 ∨ (c = 10 ∧ ins = false)) := of_decide_eq_false hbl
          have hcase := dpB_lt hdp
          have te : ((p : Int) == (src.length : Int)) = false := by simp; omega
          clear hbl hdp HALL
          rcases hcase with hd | hk | hk | hk | hk | hk | hk | hk | hk
          · have t10 : ((c : Int) == 10) = false := by simp; omega
            have hdg : dgB c = true := decide_eq_true hd
            have HK : Hid (∀ W : World, Calls Tryf.prog 49 #[.int .u8 (c : Int)] W fun e w' => e = .returned (.bool true) ∧ W = w') := Lib.hid (fun W => by rw [← hdg]; exact zzisd_any c W)
            have HDG := Lib.hid hdg
            clear hdg
            go_wp2_with (go_at_call 49; refine (HK.out _).mono ?_; rintro e w' ⟨rfl, rfl⟩)
            clear HK t10 tl te
            go_loopw [10] (fun v10 wx => ∃ q : Nat, v10 = .int .i64 (q : Int) ∧ p ≤ q ∧ q ≤ src.length ∧ (∀ z, p ≤ z → z < q → dgB (bt src z) = true) ∧ wr = wx) (fun v10 _ => src.length - (intOf v10).toNat)
            case atStart => exact ⟨p, rfl, Nat.le_refl _, hp, fun z h1 h2 => by omega, rfl⟩
            case round =>
              obtain ⟨q, rfl, hpq, hq, hall2, rfl⟩ := hrel
              have HAL := Lib.hid hall2
              clear hall2
              by_cases hlq : q < src.length
              · obtain ⟨c2, hc2⟩ : ∃ c2, bt src q = c2 := ⟨_, rfl⟩
                have hcq : wr.cell? ⟨b, o + q, none⟩ = some (.int .u8 (c2 : Int)) := by rw [HCC.out q hlq, hc2]
                have hu2 : c2 < 256 := by rw [← hc2]; exact bt_lt _ _
                have HC2 := Lib.hid hc2
                have HKQ := Lib.hid (fun W => zzisd_any c2 W)
                have tq : decide ((q : Int) < (src.length : Int)) = true := decide_eq_true (by omega)
                clear hc2
                rcases hdq : dgB c2 with _ | _
                · rw [hdq] at HKQ
                  have HRQ : Hid (RunTo src dgB p q) := Lib.hid ⟨hpq, hq, HAL.out, fun _ => by rw [HC2.out]; exact hdq⟩
                  clear hdq
                  go_wp2_with (first | (go_at_call 49; refine (HKQ.out _).mono ?_; rintro e w' ⟨rfl, rfl⟩) | (at_builtin; refine Hid.out ?_))
                  clear tq HKQ
                  have hpq1 : p + 1 ≤ q := by
                    have h1 := HRQ.out.stop
                    rcases Nat.lt_or_ge p q with h | h
                    · exact h
                    · obtain h2 : q = p := by omega
                      rw [h2, HCD.out, HDG.out] at h1
                      exact absurd (h1 hlt) (by decide)
                  refine Lib.hid ?_
                  refine wp_app6 rfl (.tmp 124) (.tmp 125) rfl rfl R0.out (.int .i64 0) rfl rfl (by omega) ?_
                  intro g61a c61a w1a hr1a hb1a
                  have R1a := Lib.hid hr1a
                  have B1a := Lib.hid (B0.out.trans hb1a)
                  clear hr1a hb1a R0 B0
                  have hcv := run_cut src p q b o (cap - p) w1a (by omega) (by omega) (fun i hi => (B1a.out.cell (p := ⟨b, o + i, none⟩) hbw).trans (HC0.out i hi))
                  have hsl := fun W => run_sl W b o src.length cap p q (by omega) (by omega) (by omega)
                  have hslA := fun W => run_slA W b o src.length cap p q (by omega) (by omega) (by omega)
                  go_wp2_with (at_builtin; refine Hid.out ?_)
                  refine Lib.hid ?_
                  refine wp_app7 rfl (.tmp 127) (.tmp 133) rfl rfl R1a.out (.string ⟨(cut src p q).toArray⟩) rfl rfl (by omega) ?_
                  intro g72a c72a w2a hr2a hb2a
                  have R2a := Lib.hid hr2a
                  have B2a := Lib.hid (B1a.out.trans hb2a)
                  clear hr2a hb2a R1a B1a hcv hsl hslA
                  go_wp2_with (at_builtin; refine Hid.out ?_)
                  refine Lib.hid ?_
                  refine wp_app8 rfl (.tmp 135) (.tmp 137) rfl rfl R2a.out (.int .i64 (p : Int)) rfl rfl (by omega) ?_
                  intro g83a c83a w3a hr3a hb3a
                  have R3a := Lib.hid hr3a
                  have B3a := Lib.hid (B2a.out.trans hb3a)
                  clear hr3a hb3a R2a B2a
                  have HT := Lib.hid (RT.push (t := (0, cut src p q, p)) HTL.out R3a.out)
                  have HS2 := Lib.hid (HSO.out.more (MTok.num HRUN.out hlt (by rw [HCD.out]; exact HDG.out) HRQ.out) (by decide))
                  clear R3a
                  go_wp2_with fail
                  go_roundw
                  case rel => exact ⟨q, n + 1, true, _, g61a, c61a, g72a, c72a, g83a, c83a, rfl, rfl, rfl, rfl, by go_num, by omega, by omega, HT.out, HS2.out, B3a.out⟩
                  case measure => simp [intOf]; omega
                · rw [hdq] at HKQ
                  have HN : Hid (∀ z, p ≤ z → z < q + 1 → dgB (bt src z) = true) := Lib.hid (fun z h1 h2 => by
                    by_cases h : z < q
                    · exact HAL.out z h1 h
                    · obtain rfl : z = q := by omega
                      rw [HC2.out, hdq])
                  clear hdq
                  go_wp2_with (go_at_call 49; refine (HKQ.out _).mono ?_; rintro e w' ⟨rfl, rfl⟩)
                  go_roundw
                  case rel => exact ⟨q + 1, by go_num, by omega, by omega, HN.out, by first | rfl | trivial⟩
                  case measure => simp [intOf]; omega
              · obtain rfl : q = src.length := by omega
                have HRQ : Hid (RunTo src dgB p src.length) := Lib.hid ⟨hpq, hq, HAL.out, fun h => by omega⟩
                have tq : decide ((src.length : Int) < (src.length : Int)) = false := by simp
                go_wp2_with (at_builtin; refine Hid.out ?_)
                clear tq
                have hpq1 : p + 1 ≤ src.length := by omega
                refine Lib.hid ?_
                refine wp_app6 rfl (.tmp 124) (.tmp 125) rfl rfl R0.out (.int .i64 0) rfl rfl (by omega) ?_
                intro g61b c61b w1b hr1b hb1b
                have R1b := Lib.hid hr1b
                have B1b := Lib.hid (B0.out.trans hb1b)
                clear hr1b hb1b R0 B0
                have hcv := run_cut src p src.length b o (cap - p) w1b (by omega) (by omega) (fun i hi => (B1b.out.cell (p := ⟨b, o + i, none⟩) hbw).trans (HC0.out i hi))
                have hsl := fun W => run_sl W b o src.length cap p src.length (by omega) (by omega) (by omega)
                have hslA := fun W => run_slA W b o src.length cap p src.length (by omega) (by omega) (by omega)
                go_wp2_with (at_builtin; refine Hid.out ?_)
                refine Lib.hid ?_
                refine wp_app7 rfl (.tmp 127) (.tmp 133) rfl rfl R1b.out (.string ⟨(cut src p src.length).toArray⟩) rfl rfl (by omega) ?_
                intro g72b c72b w2b hr2b hb2b
                have R2b := Lib.hid hr2b
                have B2b := Lib.hid (B1b.out.trans hb2b)
                clear hr2b hb2b R1b B1b hcv hsl hslA
                go_wp2_with (at_builtin; refine Hid.out ?_)
                refine Lib.hid ?_
                refine wp_app8 rfl (.tmp 135) (.tmp 137) rfl rfl R2b.out (.int .i64 (p : Int)) rfl rfl (by omega) ?_
                intro g83b c83b w3b hr3b hb3b
                have R3b := Lib.hid hr3b
                have B3b := Lib.hid (B2b.out.trans hb3b)
                clear hr3b hb3b R2b B2b
                have HT := Lib.hid (RT.push (t := (0, cut src p src.length, p)) HTL.out R3b.out)
                have HS2 := Lib.hid (HSO.out.more (MTok.num HRUN.out hlt (by rw [HCD.out]; exact HDG.out) HRQ.out) (by decide))
                clear R3b
                go_wp2_with fail
                go_roundw
                case rel => exact ⟨src.length, n + 1, true, _, g61b, c61b, g72b, c72b, g83b, c83b, rfl, rfl, rfl, rfl, by go_num, by omega, by omega, HT.out, HS2.out, B3b.out⟩
                case measure => simp [intOf]; omega
          · exact absurd hk (fun h => hnb (by simp [h]))
          · exact absurd hk (fun h => hnb (by simp [h]))
          · exact absurd hk (fun h => hnb (by simp [h]))
          · have hins : ins = true := by
              cases ins
              · exact absurd (Or.inr (Or.inr (Or.inr ⟨hk, rfl⟩))) hnb
              · rfl
            subst hins
            subst hk
            clear hnb hu
            have HK : Hid (∀ W : World, Calls Tryf.prog 49 #[.int .u8 10] W fun e w' => e = .returned (.bool false) ∧ W = w') := Lib.hid (fun W => zzisd_any 10 W)
            go_wp2_with (first | (go_at_call 49; refine (HK.out _).mono ?_; rintro e w' ⟨rfl, rfl⟩) | (at_builtin; refine Hid.out ?_))
            clear HK
            refine Lib.hid ?_
            refine wp_app6 rfl (.tmp 97) (.tmp 98) rfl rfl R0.out (.int .i64 1) rfl rfl (by omega) ?_
            intro g61n c61n w1n hr1n hb1n
            have R1n := Lib.hid hr1n
            have B1n := Lib.hid (B0.out.trans hb1n)
            clear hr1n hb1n R0 B0
            go_wp2_with (at_builtin; refine Hid.out ?_)
            refine Lib.hid ?_
            refine wp_app7 rfl (.tmp 100) (.tmp 101) rfl rfl R1n.out (.string ⟨#[10]⟩) rfl rfl (by omega) ?_
            intro g72n c72n w2n hr2n hb2n
            have R2n := Lib.hid hr2n
            have B2n := Lib.hid (B1n.out.trans hb2n)
            clear hr2n hb2n R1n B1n
            go_wp2_with (at_builtin; refine Hid.out ?_)
            refine Lib.hid ?_
            refine wp_app8 rfl (.tmp 103) (.tmp 105) rfl rfl R2n.out (.int .i64 (p : Int)) rfl rfl (by omega) ?_
            intro g83n c83n w3n hr3n hb3n
            have R3n := Lib.hid hr3n
            have B3n := Lib.hid (B2n.out.trans hb3n)
            clear hr3n hb3n R2n B2n
            have HT := Lib.hid (RT.push (t := (1, [10], p)) HTL.out R3n.out)
            have HS2 := Lib.hid (HSO.out.more (MTok.nl HRUN.out hlt HCD.out) (by decide))
            clear R3n
            go_wp2_with fail
            go_roundw
            case rel => exact ⟨p + 1, n + 1, false, _, g61n, c61n, g72n, c72n, g83n, c83n, rfl, rfl, rfl, rfl, by go_num, by omega, by omega, HT.out, HS2.out, B3n.out⟩
            case measure => simp [intOf]; omega
          · subst hk
            clear hnb hu
            have HK : Hid (∀ W : World, Calls Tryf.prog 49 #[.int .u8 40] W fun e w' => e = .returned (.bool false) ∧ W = w') := Lib.hid (fun W => zzisd_any 40 W)
            go_wp2_with (first | (go_at_call 49; refine (HK.out _).mono ?_; rintro e w' ⟨rfl, rfl⟩) | (at_builtin; refine Hid.out ?_))
            clear HK
            refine Lib.hid ?_
            refine wp_app6 rfl (.tmp 141) (.tmp 142) rfl rfl R0.out (.int .i64 2) rfl rfl (by omega) ?_
            intro g61l c61l w1l hr1l hb1l
            have R1l := Lib.hid hr1l
            have B1l := Lib.hid (B0.out.trans hb1l)
            clear hr1l hb1l R0 B0
            go_wp2_with (at_builtin; refine Hid.out ?_)
            refine Lib.hid ?_
            refine wp_app7 rfl (.tmp 144) (.tmp 145) rfl rfl R1l.out (.string ⟨#[]⟩) rfl rfl (by omega) ?_
            intro g72l c72l w2l hr2l hb2l
            have R2l := Lib.hid hr2l
            have B2l := Lib.hid (B1l.out.trans hb2l)
            clear hr2l hb2l R1l B1l
            go_wp2_with (at_builtin; refine Hid.out ?_)
            refine Lib.hid ?_
            refine wp_app8 rfl (.tmp 147) (.tmp 149) rfl rfl R2l.out (.int .i64 (p : Int)) rfl rfl (by omega) ?_
            intro g83l c83l w3l hr3l hb3l
            have R3l := Lib.hid hr3l
            have B3l := Lib.hid (B2l.out.trans hb3l)
            clear hr3l hb3l R2l B2l
            have HT := Lib.hid (RT.push (t := (2, [], p)) HTL.out R3l.out)
            have HS2 := Lib.hid (HSO.out.more (MTok.lp HRUN.out hlt HCD.out) (by decide))
            clear R3l
            go_wp2_with fail
            go_roundw
            case rel => exact ⟨p + 1, n + 1, false, _, g61l, c61l, g72l, c72l, g83l, c83l, rfl, rfl, rfl, rfl, by go_num, by omega, by omega, HT.out, HS2.out, B3l.out⟩
            case measure => simp [intOf]; omega
          · subst hk
            clear hnb hu
            have HK : Hid (∀ W : World, Calls Tryf.prog 49 #[.int .u8 41] W fun e w' => e = .returned (.bool false) ∧ W = w') := Lib.hid (fun W => zzisd_any 41 W)
            go_wp2_with (first | (go_at_call 49; refine (HK.out _).mono ?_; rintro e w' ⟨rfl, rfl⟩) | (at_builtin; refine Hid.out ?_))
            clear HK
            refine Lib.hid ?_
            refine wp_app6 rfl (.tmp 155) (.tmp 156) rfl rfl R0.out (.int .i64 3) rfl rfl (by omega) ?_
            intro g61r c61r w1r hr1r hb1r
            have R1r := Lib.hid hr1r
            have B1r := Lib.hid (B0.out.trans hb1r)
            clear hr1r hb1r R0 B0
            go_wp2_with (at_builtin; refine Hid.out ?_)
            refine Lib.hid ?_
            refine wp_app7 rfl (.tmp 158) (.tmp 159) rfl rfl R1r.out (.string ⟨#[]⟩) rfl rfl (by omega) ?_
            intro g72r c72r w2r hr2r hb2r
            have R2r := Lib.hid hr2r
            have B2r := Lib.hid (B1r.out.trans hb2r)
            clear hr2r hb2r R1r B1r
            go_wp2_with (at_builtin; refine Hid.out ?_)
            refine Lib.hid ?_
            refine wp_app8 rfl (.tmp 161) (.tmp 163) rfl rfl R2r.out (.int .i64 (p : Int)) rfl rfl (by omega) ?_
            intro g83r c83r w3r hr3r hb3r
            have R3r := Lib.hid hr3r
            have B3r := Lib.hid (B2r.out.trans hb3r)
            clear hr3r hb3r R2r B2r
            have HT := Lib.hid (RT.push (t := (3, [], p)) HTL.out R3r.out)
            have HS2 := Lib.hid (HSO.out.more (MTok.rp HRUN.out hlt HCD.out) (by decide))
            clear R3r
            go_wp2_with fail
            go_roundw
            case rel => exact ⟨p + 1, n + 1, true, _, g61r, c61r, g72r, c72r, g83r, c83r, rfl, rfl, rfl, rfl, by go_num, by omega, by omega, HT.out, HS2.out, B3r.out⟩
            case measure => simp [intOf]; omega
          · subst hk
            clear hnb hu
            have HK : Hid (∀ W : World, Calls Tryf.prog 49 #[.int .u8 44] W fun e w' => e = .returned (.bool false) ∧ W = w') := Lib.hid (fun W => zzisd_any 44 W)
            go_wp2_with (first | (go_at_call 49; refine (HK.out _).mono ?_; rintro e w' ⟨rfl, rfl⟩) | (at_builtin; refine Hid.out ?_))
            clear HK
            refine Lib.hid ?_
            refine wp_app6 rfl (.tmp 169) (.tmp 170) rfl rfl R0.out (.int .i64 4) rfl rfl (by omega) ?_
            intro g61c c61c w1c hr1c hb1c
            have R1c := Lib.hid hr1c
            have B1c := Lib.hid (B0.out.trans hb1c)
            clear hr1c hb1c R0 B0
            go_wp2_with (at_builtin; refine Hid.out ?_)
            refine Lib.hid ?_
            refine wp_app7 rfl (.tmp 172) (.tmp 173) rfl rfl R1c.out (.string ⟨#[]⟩) rfl rfl (by omega) ?_
            intro g72c c72c w2c hr2c hb2c
            have R2c := Lib.hid hr2c
            have B2c := Lib.hid (B1c.out.trans hb2c)
            clear hr2c hb2c R1c B1c
            go_wp2_with (at_builtin; refine Hid.out ?_)
            refine Lib.hid ?_
            refine wp_app8 rfl (.tmp 175) (.tmp 177) rfl rfl R2c.out (.int .i64 (p : Int)) rfl rfl (by omega) ?_
            intro g83c c83c w3c hr3c hb3c
            have R3c := Lib.hid hr3c
            have B3c := Lib.hid (B2c.out.trans hb3c)
            clear hr3c hb3c R2c B2c
            have HT := Lib.hid (RT.push (t := (4, [], p)) HTL.out R3c.out)
            have HS2 := Lib.hid (HSO.out.more (MTok.co HRUN.out hlt HCD.out) (by decide))
            clear R3c
            go_wp2_with fail
            go_roundw
            case rel => exact ⟨p + 1, n + 1, false, _, g61c, c61c, g72c, c72c, g83c, c83c, rfl, rfl, rfl, rfl, by go_num, by omega, by omega, HT.out, HS2.out, B3c.out⟩
            case measure => simp [intOf]; omega
          · subst hk
            clear hnb hu
            have HK : Hid (∀ W : World, Calls Tryf.prog 49 #[.int .u8 59] W fun e w' => e = .returned (.bool false) ∧ W = w') := Lib.hid (fun W => zzisd_any 59 W)
            go_wp2_with (first | (go_at_call 49; refine (HK.out _).mono ?_; rintro e w' ⟨rfl, rfl⟩) | (at_builtin; refine Hid.out ?_))
            clear HK
            refine Lib.hid ?_
            refine wp_app6 rfl (.tmp 181) (.tmp 182) rfl rfl R0.out (.int .i64 1) rfl rfl (by omega) ?_
            intro g61s c61s w1s hr1s hb1s
            have R1s := Lib.hid hr1s
            have B1s := Lib.hid (B0.out.trans hb1s)
            clear hr1s hb1s R0 B0
            go_wp2_with (at_builtin; refine Hid.out ?_)
            refine Lib.hid ?_
            refine wp_app7 rfl (.tmp 184) (.tmp 185) rfl rfl R1s.out (.string ⟨#[59]⟩) rfl rfl (by omega) ?_
            intro g72s c72s w2s hr2s hb2s
            have R2s := Lib.hid hr2s
            have B2s := Lib.hid (B1s.out.trans hb2s)
            clear hr2s hb2s R1s B1s
            go_wp2_with (at_builtin; refine Hid.out ?_)
            refine Lib.hid ?_
            refine wp_app8 rfl (.tmp 187) (.tmp 189) rfl rfl R2s.out (.int .i64 (p : Int)) rfl rfl (by omega) ?_
            intro g83s c83s w3s hr3s hb3s
            have R3s := Lib.hid hr3s
            have B3s := Lib.hid (B2s.out.trans hb3s)
            clear hr3s hb3s R2s B2s
            have HT := Lib.hid (RT.push (t := (1, [59], p)) HTL.out R3s.out)
            have HS2 := Lib.hid (HSO.out.more (MTok.se HRUN.out hlt HCD.out) (by decide))
            clear R3s
            go_wp2_with fail
            go_roundw
            case rel => exact ⟨p + 1, n + 1, false, _, g61s, c61s, g72s, c72s, g83s, c83s, rfl, rfl, rfl, rfl, by go_num, by omega, by omega, HT.out, HS2.out, B3s.out⟩
            case measure => simp [intOf]; omega
        · have HN : Hid (∀ q, i ≤ q → q < p + 1 → blB ins (bt src q) = true) := Lib.hid (fun q h1 h2 => by
            by_cases h : q < p
            · exact HALL.out q h1 h
            · obtain rfl : q = p := by omega
              rw [HCD.out, hbl])
          clear hbl
          go_wp2_with fail
          go_roundw
          case rel => exact ⟨p + 1, by go_num, by omega, by omega, HN.out, by first | rfl | trivial⟩
          case measure => simp [intOf]; omega
      · obtain rfl : p = src.length := by omega
        have HRUN : Hid (RunTo src (blB ins) i src.length) := Lib.hid ⟨hip, hp, HALL.out, fun h => by omega⟩
        have tl : decide ((src.length : Int) < (src.length : Int)) = false := by simp
        have te : ((src.length : Int) == (src.length : Int)) = true := by simp
        clear HALL
        rcases ins with _ | _
        · go_wp2_with (at_builtin; refine Hid.out ?_)
          refine Lib.hid ?_
          refine wp_app6 rfl (.tmp 78) (.tmp 79) rfl rfl R0.out (.int .i64 5) rfl rfl (by omega) ?_
          intro g61z c61z w1z hr1z hb1z
          have R1z := Lib.hid hr1z
          have B1z := Lib.hid (B0.out.trans hb1z)
          clear hr1z hb1z R0 B0
          go_wp2_with (at_builtin; refine Hid.out ?_)
          refine Lib.hid ?_
          refine wp_app7 rfl (.tmp 81) (.tmp 82) rfl rfl R1z.out (.string ⟨#[]⟩) rfl rfl (by omega) ?_
          intro g72z c72z w2z hr2z hb2z
          have R2z := Lib.hid hr2z
          have B2z := Lib.hid (B1z.out.trans hb2z)
          clear hr2z hb2z R1z B1z
          go_wp2_with (at_builtin; refine Hid.out ?_)
          refine Lib.hid ?_
          refine wp_app8 rfl (.tmp 84) (.tmp 86) rfl rfl R2z.out (.int .i64 (src.length : Int)) rfl rfl (by omega) ?_
          intro g83z c83z w3z hr3z hb3z
          have R3z := Lib.hid hr3z
          have B3z := Lib.hid (B2z.out.trans hb3z)
          clear hr3z hb3z R2z B2z
          have HT := Lib.hid (RT.push (t := (5, [], src.length)) HTL.out R3z.out)
          have HM := Lib.hid (HSO.out _ (MAll.last (MTok.eof HRUN.out rfl)))
          clear R3z
          go_wp2_with fail
          go_ret3
          exact ⟨_, _, _, _, _, _, n + 1, _, rfl, HT.out, HM.out, by omega, B3z.out⟩
        · go_wp2_with (at_builtin; refine Hid.out ?_)
          refine Lib.hid ?_
          refine wp_app6 rfl (.tmp 68) (.tmp 69) rfl rfl R0.out (.int .i64 1) rfl rfl (by omega) ?_
          intro g61x c61x w1x hr1x hb1x
          have R1x := Lib.hid hr1x
          have B1x := Lib.hid (B0.out.trans hb1x)
          clear hr1x hb1x R0 B0
          go_wp2_with (at_builtin; refine Hid.out ?_)
          refine Lib.hid ?_
          refine wp_app7 rfl (.tmp 71) (.tmp 72) rfl rfl R1x.out (.string ⟨#[10]⟩) rfl rfl (by omega) ?_
          intro g72x c72x w2x hr2x hb2x
          have R2x := Lib.hid hr2x
          have B2x := Lib.hid (B1x.out.trans hb2x)
          clear hr2x hb2x R1x B1x
          go_wp2_with (at_builtin; refine Hid.out ?_)
          refine Lib.hid ?_
          refine wp_app8 rfl (.tmp 74) (.tmp 76) rfl rfl R2x.out (.int .i64 (src.length : Int)) rfl rfl (by omega) ?_
          intro g83x c83x w3x hr3x hb3x
          have R3x := Lib.hid hr3x
          have B3x := Lib.hid (B2x.out.trans hb3x)
          clear hr3x hb3x R2x B2x
          have HT1 := Lib.hid (RT.push (t := (1, [10], src.length)) HTL.out R3x.out)
          have HS1 := Lib.hid (HSO.out.more (MTok.semiE HRUN.out rfl) (by decide))
          have HTL2 := Lib.hid HT1.out.1
          have R0b := Lib.hid HT1.out.2
          have HRUN2 : Hid (RunTo src (blB false) src.length src.length) := Lib.hid (RunTo.here (Nat.le_refl _) (fun h => by omega))
          clear R3x HT1
          go_wp2_with (at_builtin; refine Hid.out ?_)
          refine Lib.hid ?_
          refine wp_app6 rfl (.tmp 78) (.tmp 79) rfl rfl R0b.out (.int .i64 5) rfl rfl (by omega) ?_
          intro g61y c61y w1y hr1y hb1y
          have R1y := Lib.hid hr1y
          have B1y := Lib.hid (B3x.out.trans hb1y)
          clear hr1y hb1y R0b B3x
          go_wp2_with (at_builtin; refine Hid.out ?_)
          refine Lib.hid ?_
          refine wp_app7 rfl (.tmp 81) (.tmp 82) rfl rfl R1y.out (.string ⟨#[]⟩) rfl rfl (by omega) ?_
          intro g72y c72y w2y hr2y hb2y
          have R2y := Lib.hid hr2y
          have B2y := Lib.hid (B1y.out.trans hb2y)
          clear hr2y hb2y R1y B1y
          go_wp2_with (at_builtin; refine Hid.out ?_)
          refine Lib.hid ?_
          refine wp_app8 rfl (.tmp 84) (.tmp 86) rfl rfl R2y.out (.int .i64 (src.length : Int)) rfl rfl (by omega) ?_
          intro g83y c83y w3y hr3y hb3y
          have R3y := Lib.hid hr3y
          have B3y := Lib.hid (B2y.out.trans hb3y)
          clear hr3y hb3y R2y B2y
          have HT := Lib.hid (RT.push (t := (5, [], src.length)) HTL2.out R3y.out)
          have HM := Lib.hid (HS1.out _ (MAll.last (MTok.eof HRUN2.out rfl)))
          clear R3y
          go_wp2_with fail
          go_ret3
          exact ⟨_, _, _, _, _, _, n + 1 + 1, _, rfl, HT.out, HM.out, by omega, B3y.out⟩
end Go.Proofs.YtamfekpcoppbgaaFmt
