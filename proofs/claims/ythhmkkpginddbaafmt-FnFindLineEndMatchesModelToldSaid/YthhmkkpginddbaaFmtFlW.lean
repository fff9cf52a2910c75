/-
  The two-pass model as the law's own function computes it. Conditions: as stated.
-/
import Derived.Test.YthhmkkpginddbaaFmtFlM
namespace Go.Proofs.YthhmkkpginddbaaFmt
open Go.RowKit
set_option maxRecDepth 100000
set_option linter.unusedVariables false

def bcells (n : Nat) (S : Nat → Bool) : Array Value := ((List.range n).map fun t => Value.bool (S t)).toArray
theorem bc_at (n : Nat) (S : Nat → Bool) (i : Nat) (h : i < n) : (bcells n S)[i]? = some (.bool (S i)) := by simp [bcells, h]
theorem bc_size (n : Nat) (S : Nat → Bool) : (bcells n S).size = n := by simp [bcells]
theorem bc_zero (n : Nat) : bcells n (fun _ => false) = madeCells #[.bool false] n := by
  apply Array.ext_getElem?
  intro j
  by_cases h : j < n
  · simp [bcells, madeCells, h, Nat.mod_one]
  · simp [bcells, madeCells, h]
theorem bc_put (n : Nat) (S : Nat → Bool) (k t : Nat) (v : Bool) (hk : k ≤ t) (ht : t < n) : (bcells n (upd S k t v)).setIfInBounds t (.bool v) = bcells n (upd S k (t + 1) v) := by
  apply Array.ext_getElem?
  intro j
  rw [Array.getElem?_setIfInBounds]
  by_cases hj : j < n
  · rw [bc_at n _ j hj, bc_at n _ j hj, bc_size]
    unfold upd
    by_cases e : t = j
    · subst e
      rw [if_pos rfl, if_pos hj, if_pos (by omega)]
    · rw [if_neg e]
      by_cases h1 : k ≤ j ∧ j < t
      · rw [if_pos h1, if_pos (by omega)]
      · rw [if_neg h1, if_neg (by omega)]
  · have e1 : ∀ S, (bcells n S)[j]? = none := fun S => Array.getElem?_eq_none (by rw [bc_size]; omega)
    rw [e1, e1, if_neg (by omega)]
theorem upd_nil (S : Nat → Bool) (k : Nat) (v : Bool) : upd S k k v = S := by
  funext t
  unfold upd
  rw [if_neg (by omega)]
theorem bl_info : (Tryf.prog.info? 4).map (fun i => (i.zero, i.size, i.bytes)) = some (some (.bool false), 1, 1) := by kernel_rfl
theorem bl_make (n : Nat) (hn : n ≤ 1048576) (w : World) : (Instr.makeSlice 53 (.int .i64 (n : Int)) (.int .i64 (n : Int))).run Tryf.prog w = .ok (.slice (some ⟨w.heap.size, 0, none⟩) n n) (w.alloc (.cells (bcells n (fun _ => false)) 4)) := by
  obtain ⟨i0, hi, hz0, hz1, hz2⟩ := info_parts bl_info
  have h := run_make (P := Tryf.prog) w 53 4 i0 _ Tryf.underlying53 hi hz0 .i64 .i64 n n (by omega) (Int.le_refl _) (by rw [hz2]; omega) (by omega)
  rw [h, hz1, bc_zero]
  simp [Value.cells]
theorem ans_mk {l : List UInt8} {S D : Nat → Bool} (f : Nat) (hf : f ≤ l.length) (h1 : ∀ t, t < f → S t = true ∨ wsB (bt l t)) (h2 : f < l.length → S f = false ∧ ¬ wsB (bt l f)) (h3 : ∀ t, t < f → ¬ (S t = true ∧ D t = true)) :
    Ans l S D (decide (f = l.length ∨ bt l f = 10 ∨ (f + 1 < l.length ∧ bt l f = 47 ∧ bt l (f + 1) = 47))) :=
  ⟨f, hf, h1, h2, fun ⟨t, t1, t2, t3⟩ => absurd ⟨t2, t3⟩ (h3 t t1), fun _ => rfl⟩
theorem ans_mk_bad {l : List UInt8} {S D : Nat → Bool} (f : Nat) (hf : f ≤ l.length) (h1 : ∀ t, t < f → S t = true ∨ wsB (bt l t)) (h2 : f < l.length → S f = false ∧ ¬ wsB (bt l f)) (t : Nat) (ht : t < f) (hS : S t = true) (hD : D t = true) : Ans l S D true :=
  ⟨f, hf, h1, h2, fun _ => rfl, fun h => absurd ⟨hS, hD⟩ (h t ht)⟩
def MdPost (l : List UInt8) (w : World) (e : Ending) (w' : World) : Prop :=
  ∃ (S D : Nat → Bool) (b : Bool), e = .returned (.bool b) ∧ PassF l 0 (fun _ => false) (fun _ => false) S D ∧ Ans l S D b ∧ Below w.heap.size w w'
set_option maxHeartbeats 8000000 in
theorem model_any (b o cap n : Nat) (l : List UInt8) (w : World) (hl : l.length = n) (hn : n ≤ 65536) (hb : b < w.heap.size) (hc : ∀ i (h : i < l.length), w.cell? ⟨b, o + i, none⟩ = some (.int .u8 (l[i].toNat : Int))) :
    Calls Tryf.prog 21 #[.slice (some ⟨b, o, none⟩) n cap] w (MdPost l w) := by
  have hmk := fun W => bl_make n (by omega) W
  have HCC : Hid (∀ i, i < n → w.cell? ⟨b, o + i, none⟩ = some (.int .u8 (bt l i : Int))) := Lib.hid (fun i hi => by
    rw [hc i (by omega)]
    simp [bt, List.getD, show i < l.length by omega])
  have HL := Lib.hid hl
  have B0 := ((Below.refl w.heap.size w).alloc (Nat.le_refl _) (.cells (bcells n (fun _ => false)) 4)).alloc (by simp) (.cells (bcells n (fun _ => false)) 4)
  have S0 := (Blk.new w 4 (bcells n (fun _ => false))).alloc (.cells (bcells n (fun _ => false)) 4)
  have D0 := Blk.new (w.alloc (.cells (bcells n (fun _ => false)) 4)) 4 (bcells n (fun _ => false))
  rw [show (w.alloc (.cells (bcells n (fun _ => false)) 4)).heap.size = w.heap.size + 1 by simp] at D0
  have HB0 := Lib.hid B0
  have HS0 := Lib.hid S0
  have HD0 := Lib.hid D0
  clear hc hl B0 S0 D0
  go_enter Tryf.func21, Tryf.ntmps21
  go_wp2_with fail
  go_loopw [6] (fun i wr => ∃ (k : Nat) (S D : Nat → Bool), k ≤ n ∧ i = .int .i64 k ∧ (∀ S' D', PassF l k S D S' D' → PassF l 0 (fun _ => false) (fun _ => false) S' D') ∧ Blk wr w.heap.size 4 (bcells n S) ∧ Blk wr (w.heap.size + 1) 4 (bcells n D) ∧ Below w.heap.size w wr) (fun i _ => n - (intOf i).toNat)
  case atStart => exact ⟨0, _, _, Nat.zero_le _, rfl, fun S' D' h => h, HS0.out, HD0.out, HB0.out⟩
  case round =>
    obtain ⟨k, S, D, hk, rfl, hgo, hs, hd, hbw⟩ := hrel
    have cellAt : ∀ i, i < n → wr.cell? ⟨b, o + i, none⟩ = some (.int .u8 (bt l i : Int)) := fun i hi => (hbw.cell (p := ⟨b, o + i, none⟩) hb).trans (HCC.out i hi)
    have HCA := Lib.hid cellAt
    have HGO := Lib.hid hgo
    have HS := Lib.hid hs
    have HD := Lib.hid hd
    have HBW := Lib.hid hbw
    clear hgo hs hd hbw HS0 HD0 HB0 hmk cellAt
    by_cases hlt : k < n
    · have tl : decide ((k : Int) < (n : Int)) = true := by simp; omega
      have ck := HCA.out k hlt
      have ix : ((k : Int) + 1).toNat = k + 1 := by omega
      have hop : (¬ k + 1 < n ∨ bt l k ≠ 47 ∨ (k + 1 < n ∧ bt l k = 47 ∧ bt l (k + 1) ≠ 42)) ∨ (k + 1 < n ∧ bt l k = 47 ∧ bt l (k + 1) = 42) := by omega
      rcases hop with hno | ⟨h1, h2, h3⟩
      · have HN := Lib.hid (fun S' D' (h : PassF l (k + 1) S D S' D') => HGO.out S' D' (PassF.skip (by have := HL.out; omega) (fun ho => by have := HL.out; have h1 := ho.1; have h2 := ho.2.1; have h3 := ho.2.2; omega) h))
        rcases hno with h1 | h2 | ⟨h1, h2, h3⟩
        · have t1 : decide ((k : Int) + 1 < (n : Int)) = false := by simp; omega
          go_wp2_with fail
          go_roundw
          case rel => exact ⟨k + 1, S, D, by omega, by go_num, HN.out, HS.out, HD.out, HBW.out⟩
          case measure => simp [intOf]; omega
        · have t2 : ((bt l k : Int) == 47) = false := by simp; omega
          clear h2
          by_cases h1 : k + 1 < n
          · have t1 : decide ((k : Int) + 1 < (n : Int)) = true := by simp; omega
            go_wp2_with fail
            go_roundw
            case rel => exact ⟨k + 1, S, D, by omega, by go_num, HN.out, HS.out, HD.out, HBW.out⟩
            case measure => simp [intOf]; omega
          · have t1 : decide ((k : Int) + 1 < (n : Int)) = false := by simp; omega
            go_wp2_with fail
            go_roundw
            case rel => exact ⟨k + 1, S, D, by omega, by go_num, HN.out, HS.out, HD.out, HBW.out⟩
            case measure => simp [intOf]; omega
        · have t1 : decide ((k : Int) + 1 < (n : Int)) = true := by simp; omega
          have ck1 := HCA.out (k + 1) h1
          have t3 : ((bt l (k + 1) : Int) == 42) = false := by simp; omega
          rw [h2] at ck
          clear h2 h3
          go_wp2_with fail
          go_roundw
          case rel => exact ⟨k + 1, S, D, by omega, by go_num, HN.out, HS.out, HD.out, HBW.out⟩
          case measure => simp [intOf]; omega
      · have t1 : decide ((k : Int) + 1 < (n : Int)) = true := by simp; omega
        have ck1 := HCA.out (k + 1) h1
        have HOP : Hid (opn l k) := Lib.hid ⟨by have := HL.out; omega, h2, h3⟩
        rw [h2] at ck
        rw [h3] at ck1
        clear h2 h3
        go_wp2_with fail
        go_loop [7, 8, 9] (fun e c i => ∃ j : Nat, k + 2 ≤ j ∧ j ≤ n ∧ i = .int .i64 j ∧ e = .int .i64 n ∧ c = .bool false ∧ ∀ x, k + 2 ≤ x → x < j → ¬ cls l x) (fun _ _ i => n - (intOf i).toNat)
        case atStart => exact ⟨k + 2, Nat.le_refl _, by omega, rfl, rfl, rfl, fun x x1 x2 => by omega⟩
        case round =>
          obtain ⟨j, hj1, hj2, rfl, rfl, rfl, hnone⟩ := hrel
          have HNO := Lib.hid hnone
          clear hnone ck ck1 t1 ix
          by_cases hj : j + 1 < n
          · have tj : decide ((j : Int) + 1 < (n : Int)) = true := by simp; omega
            have cj := HCA.out j (by omega)
            have cj1 := HCA.out (j + 1) hj
            have ixj : ((j : Int) + 1).toNat = j + 1 := by omega
            by_cases hcl : bt l j = 42 ∧ bt l (j + 1) = 47
            · have HSE : Hid (SpanE l k (j + 2) true) := Lib.hid ⟨by omega, by have := HL.out; omega, fun x x1 x2 => HNO.out x x1 (by omega), fun _ => ⟨by omega, ⟨by have := HL.out; omega, hcl.1, hcl.2⟩⟩, (fun h => nomatch h)⟩
              rw [hcl.1] at cj
              rw [hcl.2] at cj1
              clear hcl
              go_wp2_with fail
              rw [show (j : Int) + 2 = ((j + 2 : Nat) : Int) by omega]
              generalize j + 2 = e at HSE ⊢
              clear cj cj1 tj ixj
              have hE1 : k + 2 ≤ e := HSE.out.lo
              have hE2 : e ≤ n := by have := HSE.out.hi; have := HL.out; omega
              go_loop [10, 11] (fun h i => ∃ (t : Nat) (hb : Bool), k ≤ t ∧ t ≤ e ∧ i = .int .i64 t ∧ h = .bool hb ∧ (hb = true ↔ ∃ x, k ≤ x ∧ x < t ∧ bt l x = 10)) (fun _ i => e - (intOf i).toNat)
              case atStart => exact ⟨k, false, Nat.le_refl _, by omega, rfl, rfl, (fun h => nomatch h), fun ⟨x, x1, x2, _⟩ => by omega⟩
              case round =>
                obtain ⟨t, hb, ht1, ht2, rfl, rfl, hiff⟩ := hrel
                have HIF := Lib.hid hiff
                clear hiff
                by_cases hlt2 : t < e
                · have tl : decide ((t : Int) < (e : Int)) = true := by simp; omega
                  have c1 := HCA.out t (by omega)
                  by_cases h10 : bt l t = 10
                  · have HN : Hid (true = true ↔ ∃ x, k ≤ x ∧ x < t + 1 ∧ bt l x = 10) := Lib.hid ⟨fun _ => ⟨t, ht1, by omega, h10⟩, fun _ => rfl⟩
                    rw [h10] at c1
                    clear h10
                    go_wp2_with fail
                    go_round
                    case rel => exact ⟨t + 1, true, by omega, by omega, by go_num, rfl, HN.out⟩
                    case measure => simp [intOf]; omega
                  · have HN : Hid (hb = true ↔ ∃ x, k ≤ x ∧ x < t + 1 ∧ bt l x = 10) := Lib.hid (HIF.out.trans ⟨fun ⟨x, x1, x2, x3⟩ => ⟨x, x1, by omega, x3⟩, fun ⟨x, x1, x2, x3⟩ => ⟨x, x1, by
                      rcases Nat.lt_or_ge x t with hh | hh
                      · exact hh
                      · exact absurd (show bt l t = 10 by rw [show t = x by omega]; exact x3) h10, x3⟩⟩)
                    have t5 : ((bt l t : Int) == 10) = false := by simp; omega
                    clear h10
                    go_wp2_with fail
                    go_round
                    case rel => exact ⟨t + 1, hb, by omega, by omega, by go_num, rfl, HN.out⟩
                    case measure => simp [intOf]; omega
                · obtain rfl : e = t := by omega
                  have tl : decide (((e : Nat) : Int) < ((e : Nat) : Int)) = false := by simp
                  have HFL : Hid (FlagE l k e true (hb || !true)) := Lib.hid (by
                    unfold FlagE
                    rw [Bool.or_eq_true, HIF.out]
                    constructor
                    · rintro (h | h)
                      · exact Or.inr h
                      · exact Or.inl (by cases h)
                    · rintro (h | h)
                      · exact Or.inr (by cases h)
                      · exact Or.inl h)
                  clear HIF
                  rcases hb with _ | _
                  · have HF2 : Hid (FlagE l k e true false) := HFL
                    clear HFL
                    go_wp2_with fail
                    go_loopw [13] (fun i wr2 => ∃ t : Nat, k ≤ t ∧ t ≤ e ∧ i = .int .i64 t ∧ Blk wr2 w.heap.size 4 (bcells n (upd S k t true)) ∧ Blk wr2 (w.heap.size + 1) 4 (bcells n (upd D k t false)) ∧ Below w.heap.size w wr2) (fun i _ => e - (intOf i).toNat)
                    case atStart => exact ⟨k, Nat.le_refl _, by omega, rfl, by rw [upd_nil]; exact HS.out, by rw [upd_nil]; exact HD.out, HBW.out⟩
                    case round =>
                      obtain ⟨t2, hu1, hu2, rfl, hs2, hd2, hb2⟩ := hrel
                      by_cases hlt3 : t2 < e
                      · have tl3 : decide ((t2 : Int) < ((e : Nat) : Int)) = true := by simp; omega
                        have cs := hs2.cell t2
                        rw [bc_at n _ t2 (by omega)] at cs
                        have fs := hs2.free t2
                        have cd := hd2.cell t2
                        rw [bc_at n _ t2 (by omega)] at cd
                        have fd := hd2.free t2
                        have hne : (w.heap.size + 1 == w.heap.size) = false := by simp
                        have hs3 := (hs2.put t2 (.bool true)).other (p := ⟨w.heap.size + 1, t2, none⟩) (by simp) (.bool false)
                        have hd3 := (hd2.other (p := ⟨w.heap.size, t2, none⟩) (by simp) (.bool true)).put t2 (.bool false)
                        have hb3 := (hb2.setCell (p := ⟨w.heap.size, t2, none⟩) (Nat.le_refl _) (.bool true)).setCell (p := ⟨w.heap.size + 1, t2, none⟩) (by simp) (.bool false)
                        rw [bc_put n S k t2 true hu1 (by omega)] at hs3
                        rw [bc_put n D k t2 false hu1 (by omega)] at hd3
                        have HS3 := Lib.hid hs3
                        have HD3 := Lib.hid hd3
                        have HB3 := Lib.hid hb3
                        generalize upd S k t2 true t2 = xs at cs
                        generalize upd D k t2 false t2 = xd at cd
                        clear hs2 hd2 hb2 hs3 hd3 hb3 tl
                        go_wp2_with fail
                        go_roundw
                        case rel => exact ⟨t2 + 1, by omega, by omega, by go_num, HS3.out, HD3.out, HB3.out⟩
                        case measure => simp [intOf]; omega
                      · obtain rfl : e = t2 := by omega
                        have HS4 := Lib.hid hs2
                        have HD4 := Lib.hid hd2
                        have HB4 := Lib.hid hb2
                        have HP4 := Lib.hid (fun S' D' (h : PassF l e (upd S k e true) (upd D k e false) S' D') => HGO.out S' D' (PassF.span HOP.out HSE.out HF2.out h))
                        clear hs2 hd2 hb2
                        go_wp2_with fail
                        go_roundw
                        case rel => exact ⟨e, _, _, hE2, rfl, HP4.out, HS4.out, HD4.out, HB4.out⟩
                        case measure => simp [intOf]; omega
                  · have HF2 : Hid (FlagE l k e true true) := HFL
                    clear HFL
                    go_wp2_with fail
                    go_loopw [13] (fun i wr2 => ∃ t : Nat, k ≤ t ∧ t ≤ e ∧ i = .int .i64 t ∧ Blk wr2 w.heap.size 4 (bcells n (upd S k t true)) ∧ Blk wr2 (w.heap.size + 1) 4 (bcells n (upd D k t true)) ∧ Below w.heap.size w wr2) (fun i _ => e - (intOf i).toNat)
                    case atStart => exact ⟨k, Nat.le_refl _, by omega, rfl, by rw [upd_nil]; exact HS.out, by rw [upd_nil]; exact HD.out, HBW.out⟩
                    case round =>
                      obtain ⟨t2, hu1, hu2, rfl, hs2, hd2, hb2⟩ := hrel
                      by_cases hlt3 : t2 < e
                      · have tl3 : decide ((t2 : Int) < ((e : Nat) : Int)) = true := by simp; omega
                        have cs := hs2.cell t2
                        rw [bc_at n _ t2 (by omega)] at cs
                        have fs := hs2.free t2
                        have cd := hd2.cell t2
                        rw [bc_at n _ t2 (by omega)] at cd
                        have fd := hd2.free t2
                        have hne : (w.heap.size + 1 == w.heap.size) = false := by simp
                        have hs3 := (hs2.put t2 (.bool true)).other (p := ⟨w.heap.size + 1, t2, none⟩) (by simp) (.bool true)
                        have hd3 := (hd2.other (p := ⟨w.heap.size, t2, none⟩) (by simp) (.bool true)).put t2 (.bool true)
                        have hb3 := (hb2.setCell (p := ⟨w.heap.size, t2, none⟩) (Nat.le_refl _) (.bool true)).setCell (p := ⟨w.heap.size + 1, t2, none⟩) (by simp) (.bool true)
                        rw [bc_put n S k t2 true hu1 (by omega)] at hs3
                        rw [bc_put n D k t2 true hu1 (by omega)] at hd3
                        have HS3 := Lib.hid hs3
                        have HD3 := Lib.hid hd3
                        have HB3 := Lib.hid hb3
                        generalize upd S k t2 true t2 = xs at cs
                        generalize upd D k t2 true t2 = xd at cd
                        clear hs2 hd2 hb2 hs3 hd3 hb3 tl
                        go_wp2_with fail
                        go_roundw
                        case rel => exact ⟨t2 + 1, by omega, by omega, by go_num, HS3.out, HD3.out, HB3.out⟩
                        case measure => simp [intOf]; omega
                      · obtain rfl : e = t2 := by omega
                        have HS4 := Lib.hid hs2
                        have HD4 := Lib.hid hd2
                        have HB4 := Lib.hid hb2
                        have HP4 := Lib.hid (fun S' D' (h : PassF l e (upd S k e true) (upd D k e true) S' D') => HGO.out S' D' (PassF.span HOP.out HSE.out HF2.out h))
                        clear hs2 hd2 hb2
                        go_wp2_with fail
                        go_roundw
                        case rel => exact ⟨e, _, _, hE2, rfl, HP4.out, HS4.out, HD4.out, HB4.out⟩
                        case measure => simp [intOf]; omega
            · have HNX : Hid (∀ x, k + 2 ≤ x → x < j + 1 → ¬ cls l x) := Lib.hid (fun x x1 x2 => by
                by_cases e : x = j
                · rw [e]
                  exact fun h => hcl ⟨h.2.1, h.2.2⟩
                · exact HNO.out x x1 (by omega))
              by_cases h42 : bt l j = 42
              · have t4 : ((bt l (j + 1) : Int) == 47) = false := by
                  have : bt l (j + 1) ≠ 47 := fun h => hcl ⟨h42, h⟩
                  simp; omega
                rw [h42] at cj
                clear hcl h42
                go_wp2_with fail
                go_round
                case rel => exact ⟨j + 1, by omega, by omega, by go_num, rfl, rfl, HNX.out⟩
                case measure => simp [intOf]; omega
              · have t4 : ((bt l j : Int) == 42) = false := by simp; omega
                clear hcl h42
                go_wp2_with fail
                go_round
                case rel => exact ⟨j + 1, by omega, by omega, by go_num, rfl, rfl, HNX.out⟩
                case measure => simp [intOf]; omega
          · have tj : decide ((j : Int) + 1 < (n : Int)) = false := by simp; omega
            have HSE : Hid (SpanE l k n false) := Lib.hid ⟨by omega, by have := HL.out; omega, fun x x1 x2 => HNO.out x x1 (by omega), (fun h => nomatch h), fun _ => ⟨HL.out.symm, fun x x1 hc => by
              rcases Nat.lt_or_ge x j with hh | hh
              · exact HNO.out x x1 hh hc
              · have := hc.1
                have := HL.out
                omega⟩⟩
            go_wp2_with fail
            clear tj
            have hE1 : k + 2 ≤ n := HSE.out.lo
            have hE2 : n ≤ n := by have := HSE.out.hi; have := HL.out; omega
            go_loop [10, 11] (fun h i => ∃ (t : Nat) (hb : Bool), k ≤ t ∧ t ≤ n ∧ i = .int .i64 t ∧ h = .bool hb ∧ (hb = true ↔ ∃ x, k ≤ x ∧ x < t ∧ bt l x = 10)) (fun _ i => n - (intOf i).toNat)
            case atStart => exact ⟨k, false, Nat.le_refl _, by omega, rfl, rfl, (fun h => nomatch h), fun ⟨x, x1, x2, _⟩ => by omega⟩
            case round =>
              obtain ⟨t, hb, ht1, ht2, rfl, rfl, hiff⟩ := hrel
              have HIF := Lib.hid hiff
              clear hiff
              by_cases hlt2 : t < n
              · have tl : decide ((t : Int) < (n : Int)) = true := by simp; omega
                have c1 := HCA.out t (by omega)
                by_cases h10 : bt l t = 10
                · have HN : Hid (true = true ↔ ∃ x, k ≤ x ∧ x < t + 1 ∧ bt l x = 10) := Lib.hid ⟨fun _ => ⟨t, ht1, by omega, h10⟩, fun _ => rfl⟩
                  rw [h10] at c1
                  clear h10
                  go_wp2_with fail
                  go_round
                  case rel => exact ⟨t + 1, true, by omega, by omega, by go_num, rfl, HN.out⟩
                  case measure => simp [intOf]; omega
                · have HN : Hid (hb = true ↔ ∃ x, k ≤ x ∧ x < t + 1 ∧ bt l x = 10) := Lib.hid (HIF.out.trans ⟨fun ⟨x, x1, x2, x3⟩ => ⟨x, x1, by omega, x3⟩, fun ⟨x, x1, x2, x3⟩ => ⟨x, x1, by
                    rcases Nat.lt_or_ge x t with hh | hh
                    · exact hh
                    · exact absurd (show bt l t = 10 by rw [show t = x by omega]; exact x3) h10, x3⟩⟩)
                  have t5 : ((bt l t : Int) == 10) = false := by simp; omega
                  clear h10
                  go_wp2_with fail
                  go_round
                  case rel => exact ⟨t + 1, hb, by omega, by omega, by go_num, rfl, HN.out⟩
                  case measure => simp [intOf]; omega
              · obtain rfl : n = t := by omega
                have tl : decide (((n : Nat) : Int) < ((n : Nat) : Int)) = false := by simp
                have HFL : Hid (FlagE l k n false (hb || !false)) := Lib.hid (by
                  unfold FlagE
                  rw [Bool.or_eq_true, HIF.out]
                  constructor
                  · rintro (h | h)
                    · exact Or.inr h
                    · exact Or.inl rfl
                  · rintro (h | h)
                    · exact Or.inr rfl
                    · exact Or.inl h)
                clear HIF
                rcases hb with _ | _
                · have HF2 : Hid (FlagE l k n false true) := HFL
                  clear HFL
                  go_wp2_with fail
                  go_loopw [13] (fun i wr2 => ∃ t : Nat, k ≤ t ∧ t ≤ n ∧ i = .int .i64 t ∧ Blk wr2 w.heap.size 4 (bcells n (upd S k t true)) ∧ Blk wr2 (w.heap.size + 1) 4 (bcells n (upd D k t true)) ∧ Below w.heap.size w wr2) (fun i _ => n - (intOf i).toNat)
                  case atStart => exact ⟨k, Nat.le_refl _, by omega, rfl, by rw [upd_nil]; exact HS.out, by rw [upd_nil]; exact HD.out, HBW.out⟩
                  case round =>
                    obtain ⟨t2, hu1, hu2, rfl, hs2, hd2, hb2⟩ := hrel
                    by_cases hlt3 : t2 < n
                    · have tl3 : decide ((t2 : Int) < ((n : Nat) : Int)) = true := by simp; omega
                      have cs := hs2.cell t2
                      rw [bc_at n _ t2 (by omega)] at cs
                      have fs := hs2.free t2
                      have cd := hd2.cell t2
                      rw [bc_at n _ t2 (by omega)] at cd
                      have fd := hd2.free t2
                      have hne : (w.heap.size + 1 == w.heap.size) = false := by simp
                      have hs3 := (hs2.put t2 (.bool true)).other (p := ⟨w.heap.size + 1, t2, none⟩) (by simp) (.bool true)
                      have hd3 := (hd2.other (p := ⟨w.heap.size, t2, none⟩) (by simp) (.bool true)).put t2 (.bool true)
                      have hb3 := (hb2.setCell (p := ⟨w.heap.size, t2, none⟩) (Nat.le_refl _) (.bool true)).setCell (p := ⟨w.heap.size + 1, t2, none⟩) (by simp) (.bool true)
                      rw [bc_put n S k t2 true hu1 (by omega)] at hs3
                      rw [bc_put n D k t2 true hu1 (by omega)] at hd3
                      have HS3 := Lib.hid hs3
                      have HD3 := Lib.hid hd3
                      have HB3 := Lib.hid hb3
                      generalize upd S k t2 true t2 = xs at cs
                      generalize upd D k t2 true t2 = xd at cd
                      clear hs2 hd2 hb2 hs3 hd3 hb3 tl
                      go_wp2_with fail
                      go_roundw
                      case rel => exact ⟨t2 + 1, by omega, by omega, by go_num, HS3.out, HD3.out, HB3.out⟩
                      case measure => simp [intOf]; omega
                    · obtain rfl : n = t2 := by omega
                      have HS4 := Lib.hid hs2
                      have HD4 := Lib.hid hd2
                      have HB4 := Lib.hid hb2
                      have HP4 := Lib.hid (fun S' D' (h : PassF l n (upd S k n true) (upd D k n true) S' D') => HGO.out S' D' (PassF.span HOP.out HSE.out HF2.out h))
                      clear hs2 hd2 hb2
                      go_wp2_with fail
                      go_roundw
                      case rel => exact ⟨n, _, _, hE2, rfl, HP4.out, HS4.out, HD4.out, HB4.out⟩
                      case measure => simp [intOf]; omega
                · have HF2 : Hid (FlagE l k n false true) := HFL
                  clear HFL
                  go_wp2_with fail
                  go_loopw [13] (fun i wr2 => ∃ t : Nat, k ≤ t ∧ t ≤ n ∧ i = .int .i64 t ∧ Blk wr2 w.heap.size 4 (bcells n (upd S k t true)) ∧ Blk wr2 (w.heap.size + 1) 4 (bcells n (upd D k t true)) ∧ Below w.heap.size w wr2) (fun i _ => n - (intOf i).toNat)
                  case atStart => exact ⟨k, Nat.le_refl _, by omega, rfl, by rw [upd_nil]; exact HS.out, by rw [upd_nil]; exact HD.out, HBW.out⟩
                  case round =>
                    obtain ⟨t2, hu1, hu2, rfl, hs2, hd2, hb2⟩ := hrel
                    by_cases hlt3 : t2 < n
                    · have tl3 : decide ((t2 : Int) < ((n : Nat) : Int)) = true := by simp; omega
                      have cs := hs2.cell t2
                      rw [bc_at n _ t2 (by omega)] at cs
                      have fs := hs2.free t2
                      have cd := hd2.cell t2
                      rw [bc_at n _ t2 (by omega)] at cd
                      have fd := hd2.free t2
                      have hne : (w.heap.size + 1 == w.heap.size) = false := by simp
                      have hs3 := (hs2.put t2 (.bool true)).other (p := ⟨w.heap.size + 1, t2, none⟩) (by simp) (.bool true)
                      have hd3 := (hd2.other (p := ⟨w.heap.size, t2, none⟩) (by simp) (.bool true)).put t2 (.bool true)
                      have hb3 := (hb2.setCell (p := ⟨w.heap.size, t2, none⟩) (Nat.le_refl _) (.bool true)).setCell (p := ⟨w.heap.size + 1, t2, none⟩) (by simp) (.bool true)
                      rw [bc_put n S k t2 true hu1 (by omega)] at hs3
                      rw [bc_put n D k t2 true hu1 (by omega)] at hd3
                      have HS3 := Lib.hid hs3
                      have HD3 := Lib.hid hd3
                      have HB3 := Lib.hid hb3
                      generalize upd S k t2 true t2 = xs at cs
                      generalize upd D k t2 true t2 = xd at cd
                      clear hs2 hd2 hb2 hs3 hd3 hb3 tl
                      go_wp2_with fail
                      go_roundw
                      case rel => exact ⟨t2 + 1, by omega, by omega, by go_num, HS3.out, HD3.out, HB3.out⟩
                      case measure => simp [intOf]; omega
                    · obtain rfl : n = t2 := by omega
                      have HS4 := Lib.hid hs2
                      have HD4 := Lib.hid hd2
                      have HB4 := Lib.hid hb2
                      have HP4 := Lib.hid (fun S' D' (h : PassF l n (upd S k n true) (upd D k n true) S' D') => HGO.out S' D' (PassF.span HOP.out HSE.out HF2.out h))
                      clear hs2 hd2 hb2
                      go_wp2_with fail
                      go_roundw
                      case rel => exact ⟨n, _, _, hE2, rfl, HP4.out, HS4.out, HD4.out, HB4.out⟩
                      case measure => simp [intOf]; omega
    · obtain rfl : n = k := by omega
      have tl : decide ((n : Int) < (n : Int)) = false := by simp
      have HP := Lib.hid (HGO.out S D (PassF.done (by have := HL.out; omega)))
      clear HGO
      go_wp2_with fail
      go_loop [14, 15] (fun f i => ∃ t : Nat, t ≤ n ∧ i = .int .i64 t ∧ f = .int .i64 (-1) ∧ ∀ x, x < t → S x = true ∨ wsB (bt l x)) (fun _ i => n - (intOf i).toNat)
      case atStart => exact ⟨0, Nat.zero_le _, rfl, rfl, fun x hx => by omega⟩
      case round =>
        obtain ⟨t, ht, rfl, rfl, hw⟩ := hrel
        have HW := Lib.hid hw
        clear hw
        by_cases hlt5 : t < n
        · have tl5 : decide ((t : Int) < (n : Int)) = true := by simp; omega
          have cs := HS.out.cell t
          rw [bc_at n _ t hlt5] at cs
          have ct := HCA.out t hlt5
          rcases hS : S t with _ | _
          · rw [hS] at cs
            by_cases hws : wsB (bt l t)
            · have HNX : Hid (∀ x, x < t + 1 → S x = true ∨ wsB (bt l x)) := Lib.hid (fun x hx => by
                by_cases e : x = t
                · rw [e]
                  exact Or.inr hws
                · exact HW.out x (by omega))
              clear hS
              rcases hws with h | h | h
              all_goals
                rw [h] at ct
                clear h
                go_wp2_with fail
                go_round
                case rel => exact ⟨t + 1, by omega, by go_num, rfl, HNX.out⟩
                case measure => simp [intOf]; omega
            · have HF : Hid (S t = false ∧ ¬ wsB (bt l t)) := Lib.hid ⟨hS, hws⟩
              have u5 : ((bt l t : Int) == 32) = false := by unfold wsB at hws; simp; omega
              have u6 : ((bt l t : Int) == 9) = false := by unfold wsB at hws; simp; omega
              have u7 : ((bt l t : Int) == 13) = false := by unfold wsB at hws; simp; omega
              clear hS hws
              go_wp2_with fail
              obtain ⟨f, rfl⟩ : ∃ f, f = t := ⟨_, rfl⟩
              have hfn := hlt5
              clear cs ct u5 u6 u7 tl5
              go_wp2_with fail
              go_loop [17] (fun i => ∃ t : Nat, t ≤ f ∧ i = .int .i64 t ∧ ∀ x, x < t → ¬ (S x = true ∧ D x = true)) (fun i => f - (intOf i).toNat)
              case atStart => exact ⟨0, Nat.zero_le _, rfl, fun x hx => by omega⟩
              case round =>
                obtain ⟨t, ht, rfl, hnb⟩ := hrel
                by_cases hlt6 : t < f
                rotate_left
                · obtain rfl : f = t := by omega
                  have tl6 : decide (((f : Nat) : Int) < ((f : Nat) : Int)) = false := by simp
                  have HNB := Lib.hid hnb
                  clear hnb
                  have HA : Hid (Ans l S D (decide (f = l.length ∨ bt l f = 10 ∨ (f + 1 < l.length ∧ bt l f = 47 ∧ bt l (f + 1) = 47)))) := Lib.hid (ans_mk (l := l) f (by have := HL.out; omega) HW.out (fun _ => HF.out) HNB.out)
                  have cf := HCA.out f hfn
                  have ixf : ((f : Int) + 1).toNat = f + 1 := by omega
                  by_cases g10 : bt l f = 10
                  · rw [decide_eq_true (Or.inr (Or.inl g10))] at HA
                    rw [g10] at cf
                    clear g10
                    go_wp2_with fail
                    go_ret
                    exact ⟨S, D, true, rfl, HP.out, HA.out, HBW.out⟩
                  · have u1 : ((bt l f : Int) == 10) = false := by simp; omega
                    by_cases g1 : f + 1 < n
                    · have u2 : decide ((f : Int) + 1 < (n : Int)) = true := by simp; omega
                      by_cases g47 : bt l f = 47
                      · have cf1 := HCA.out (f + 1) g1
                        by_cases h47 : bt l (f + 1) = 47
                        · rw [decide_eq_true (Or.inr (Or.inr ⟨by have := HL.out; omega, g47, h47⟩))] at HA
                          rw [g47] at cf
                          rw [h47] at cf1
                          clear g10 u1 g47 h47
                          go_wp2_with fail
                          go_ret
                          exact ⟨S, D, true, rfl, HP.out, HA.out, HBW.out⟩
                        · rw [decide_eq_false (by have := HL.out; omega)] at HA
                          have u3 : ((bt l (f + 1) : Int) == 47) = false := by simp; omega
                          rw [g47] at cf
                          clear g10 u1 g47 h47
                          go_wp2_with fail
                          go_ret
                          exact ⟨S, D, false, rfl, HP.out, HA.out, HBW.out⟩
                      · rw [decide_eq_false (by have := HL.out; omega)] at HA
                        have u3 : ((bt l f : Int) == 47) = false := by simp; omega
                        clear g10 g47
                        go_wp2_with fail
                        go_ret
                        exact ⟨S, D, false, rfl, HP.out, HA.out, HBW.out⟩
                    · have u2 : decide ((f : Int) + 1 < (n : Int)) = false := by simp; omega
                      rw [decide_eq_false (by have := HL.out; omega)] at HA
                      clear g10
                      go_wp2_with fail
                      go_ret
                      exact ⟨S, D, false, rfl, HP.out, HA.out, HBW.out⟩
                have tl6 : decide ((t : Int) < ((f : Nat) : Int)) = true := by simp; omega
                have cs := HS.out.cell t
                rw [bc_at n _ t (by omega)] at cs
                have cd := HD.out.cell t
                rw [bc_at n _ t (by omega)] at cd
                rcases hS : S t with _ | _
                · have HNX : Hid (∀ x, x < t + 1 → ¬ (S x = true ∧ D x = true)) := Lib.hid (fun x hx => by
                    by_cases e : x = t
                    · rw [e, hS]
                      exact fun h => nomatch h.1
                    · exact hnb x (by omega))
                  rw [hS] at cs
                  clear hS hnb
                  go_wp2_with fail
                  go_round
                  case rel => exact ⟨t + 1, by omega, by go_num, HNX.out⟩
                  case measure => simp [intOf]; omega
                · rcases hD : D t with _ | _
                  · have HNX : Hid (∀ x, x < t + 1 → ¬ (S x = true ∧ D x = true)) := Lib.hid (fun x hx => by
                      by_cases e : x = t
                      · rw [e, hD]
                        exact fun h => nomatch h.2
                      · exact hnb x (by omega))
                    rw [hS] at cs
                    rw [hD] at cd
                    clear hS hD hnb
                    go_wp2_with fail
                    go_round
                    case rel => exact ⟨t + 1, by omega, by go_num, HNX.out⟩
                    case measure => simp [intOf]; omega
                  · have HA : Hid (Ans l S D true) := Lib.hid (ans_mk_bad (l := l) f (by have := HL.out; omega) HW.out (fun _ => HF.out) t (by omega) hS hD)
                    rw [hS] at cs
                    rw [hD] at cd
                    clear hS hD hnb
                    go_wp2_with fail
                    go_ret
                    exact ⟨S, D, true, rfl, HP.out, HA.out, HBW.out⟩
          · have HNX : Hid (∀ x, x < t + 1 → S x = true ∨ wsB (bt l x)) := Lib.hid (fun x hx => by
              by_cases e : x = t
              · rw [e]
                exact Or.inl hS
              · exact HW.out x (by omega))
            rw [hS] at cs
            clear hS
            go_wp2_with fail
            go_round
            case rel => exact ⟨t + 1, by omega, by go_num, rfl, HNX.out⟩
            case measure => simp [intOf]; omega
        · obtain rfl : n = t := by omega
          have tl5 : decide ((n : Int) < (n : Int)) = false := by simp
          go_wp2_with fail
          go_wp2_with fail
          go_loop [17] (fun i => ∃ t : Nat, t ≤ n ∧ i = .int .i64 t ∧ ∀ x, x < t → ¬ (S x = true ∧ D x = true)) (fun i => n - (intOf i).toNat)
          case atStart => exact ⟨0, Nat.zero_le _, rfl, fun x hx => by omega⟩
          case round =>
            obtain ⟨t, ht, rfl, hnb⟩ := hrel
            by_cases hlt6 : t < n
            rotate_left
            · obtain rfl : n = t := by omega
              have tl6 : decide (((n : Nat) : Int) < ((n : Nat) : Int)) = false := by simp
              have HNB := Lib.hid hnb
              clear hnb
              have HA : Hid (Ans l S D true) := Lib.hid (by
                have := ans_mk (l := l) n (by have := HL.out; omega) HW.out (fun h => by have := HL.out; omega) HNB.out
                rw [decide_eq_true (Or.inl (by have := HL.out; omega))] at this
                exact this)
              go_wp2_with fail
              go_ret
              exact ⟨S, D, true, rfl, HP.out, HA.out, HBW.out⟩
            have tl6 : decide ((t : Int) < ((n : Nat) : Int)) = true := by simp; omega
            have cs := HS.out.cell t
            rw [bc_at n _ t (by omega)] at cs
            have cd := HD.out.cell t
            rw [bc_at n _ t (by omega)] at cd
            rcases hS : S t with _ | _
            · have HNX : Hid (∀ x, x < t + 1 → ¬ (S x = true ∧ D x = true)) := Lib.hid (fun x hx => by
                by_cases e : x = t
                · rw [e, hS]
                  exact fun h => nomatch h.1
                · exact hnb x (by omega))
              rw [hS] at cs
              clear hS hnb
              go_wp2_with fail
              go_round
              case rel => exact ⟨t + 1, by omega, by go_num, HNX.out⟩
              case measure => simp [intOf]; omega
            · rcases hD : D t with _ | _
              · have HNX : Hid (∀ x, x < t + 1 → ¬ (S x = true ∧ D x = true)) := Lib.hid (fun x hx => by
                  by_cases e : x = t
                  · rw [e, hD]
                    exact fun h => nomatch h.2
                  · exact hnb x (by omega))
                rw [hS] at cs
                rw [hD] at cd
                clear hS hD hnb
                go_wp2_with fail
                go_round
                case rel => exact ⟨t + 1, by omega, by go_num, HNX.out⟩
                case measure => simp [intOf]; omega
              · have HA : Hid (Ans l S D true) := Lib.hid (ans_mk_bad (l := l) n (by have := HL.out; omega) HW.out (fun h => by have := HL.out; omega) t (by omega) hS hD)
                rw [hS] at cs
                rw [hD] at cd
                clear hS hD hnb
                go_wp2_with fail
                go_ret
                exact ⟨S, D, true, rfl, HP.out, HA.out, HBW.out⟩
end Go.Proofs.YthhmkkpginddbaaFmt
