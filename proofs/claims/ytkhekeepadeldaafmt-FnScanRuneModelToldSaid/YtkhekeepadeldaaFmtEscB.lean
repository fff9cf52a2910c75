/-
  The law's own escape table, walked. Conditions: at most 2^20 bytes; the quote is 39.
-/
import Derived.Test.YtkhekeepadeldaaFmtRuneM
import Derived.Deep.DeepCutAuto
import Derived.Deep.CutBlock
namespace Go.Proofs.YtkhekeepadeldaaFmt
open Go.RowKit
set_option maxRecDepth 100000
set_option linter.unusedVariables false
set_option maxHeartbeats 1000000 in
theorem hexv_any (c : Nat) (w : World) (h0 : c < 256) :
    Calls Tryf.prog 27 #[.int .u8 (c : Int)] w fun e w' => e = .returned (.int .i64 (dv (if c < 128 then (c : Int) else 1000))) ∧ w = w' := by
  by_cases h48 : 48 ≤ c ∧ c ≤ 57
  · have e : dv (if c < 128 then (c : Int) else 1000) = (c : Int) - 48 := by rw [if_pos (by omega)]; unfold dv; split <;> (try split) <;> (try split) <;> omega
    rw [e]
    obtain ⟨h3, h4⟩ := h48
    clear e
    go_enter Tryf.func27, Tryf.ntmps27
    go_wp2
    go_ret
    exact ⟨ret_i (by omega), rfl⟩
  by_cases h97 : 97 ≤ c ∧ c ≤ 102
  · have e : dv (if c < 128 then (c : Int) else 1000) = (c : Int) - 87 := by rw [if_pos (by omega)]; unfold dv; split <;> (try split) <;> (try split) <;> omega
    rw [e]
    obtain ⟨h3, h4⟩ := h97
    clear e
    go_enter Tryf.func27, Tryf.ntmps27
    go_wp2
    go_ret
    exact ⟨ret_i (by omega), rfl⟩
  by_cases h65 : 65 ≤ c ∧ c ≤ 70
  · have e : dv (if c < 128 then (c : Int) else 1000) = (c : Int) - 55 := by rw [if_pos (by omega)]; unfold dv; split <;> (try split) <;> (try split) <;> omega
    rw [e]
    obtain ⟨h3, h4⟩ := h65
    clear e
    go_enter Tryf.func27, Tryf.ntmps27
    go_wp2
    go_ret
    exact ⟨ret_i (by omega), rfl⟩
  have e : dv (if c < 128 then (c : Int) else 1000) = 16 := by unfold dv; split <;> (repeat' split) <;> omega
  rw [e]
  clear e
  have q1 : c < 48 ∨ (58 ≤ c ∧ c < 65) ∨ (71 ≤ c ∧ c < 97) ∨ 103 ≤ c := by omega
  clear h48 h97 h65
  rcases q1 with q1 | ⟨q1, q2⟩ | ⟨q1, q2⟩ | q1
  all_goals
    go_enter Tryf.func27, Tryf.ntmps27
    go_wp2
    go_ret
    exact ⟨rfl, rfl⟩
/-- the table's answer at a place -/
def EBPost (src : List UInt8) (i : Nat) (w : World) (e : Ending) (w' : World) : Prop :=
  e = .returned (.tuple #[.bool (escO (chA src) 39 i).2, .int .i64 ((escO (chA src) 39 i).1 : Int)]) ∧ w = w'
theorem eb_mk {src : List UInt8} {i j : Nat} {ok : Bool} {w : World} {z : Int} (h : escO (chA src) 39 i = (j, ok)) (hz : z = (j : Int)) : EBPost src i w (.returned (.tuple #[.bool ok, .int .i64 z])) w := by
  unfold EBPost
  rw [h, hz]
  exact ⟨rfl, rfl⟩
theorem chA_ge {src : List UInt8} {i : Nat} (h : src.length ≤ i) : chA src i = -1 := by unfold chA; rw [if_neg (by omega)]
theorem chA_lt {src : List UInt8} {i : Nat} (h : i < src.length) : chA src i = if bt src i < 128 then (bt src i : Int) else 1000 := by unfold chA; rw [if_pos h]
set_option maxHeartbeats 4000000 in
theorem eb_low (oA : Option Addr) (cap : Nat) (src : List UInt8) (i : Nat) (w : World) (hsrc : SrcAt w w.heap.size oA src) (hn : src.length ≤ 1048576) (hi : i ≤ 1048586) (h : src.length ≤ i ∨ 128 ≤ bt src i) :
    Calls Tryf.prog 21 #[.slice oA src.length cap, .int .i64 (i : Int), .int .i32 39] w (EBPost src i w) := by
  by_cases hlt : i < src.length
  · have hb : 128 ≤ bt src i := by omega
    have hbl := bt_lt src i
    have e : escO (chA src) 39 i = (i, false) := by
      have hc := chA_lt hlt
      rw [if_neg (by omega)] at hc
      unfold escO
      rw [hc]
      rfl
    obtain ⟨b, o, rfl, hbb, hcc⟩ := hsrc.at_ (by omega)
    have c0 : w.cell? ⟨b, o + i, none⟩ = some (.int .u8 (bt src i : Int)) := by
      rw [hcc i hlt]
      simp [bt, List.getD, hlt]
    have hge : (128 : Int) ≤ (bt src i : Int) := by omega
    have E := Lib.hid e
    clear e hcc hsrc h
    generalize bt src i = c at *
    go_enter Tryf.func21, Tryf.ntmps21
    go_wp2_with fail
    go_ret2
    exact eb_mk E.out rfl
  · have e : escO (chA src) 39 i = (i, false) := by
      unfold escO
      rw [chA_ge (by omega)]
      rfl
    have E := Lib.hid e
    clear e hsrc h
    go_enter Tryf.func21, Tryf.ntmps21
    go_wp2_with fail
    go_ret2
    exact eb_mk E.out rfl
set_option maxHeartbeats 4000000 in
theorem eb_simple (oA : Option Addr) (cap : Nat) (src : List UInt8) (i : Nat) (w : World) (hsrc : SrcAt w w.heap.size oA src) (hn : src.length ≤ 1048576) (hlt : i < src.length) (h : bt src i = 97 ∨ bt src i = 98 ∨ bt src i = 102 ∨ bt src i = 110 ∨ bt src i = 114 ∨ bt src i = 116 ∨ bt src i = 118 ∨ bt src i = 92 ∨ bt src i = 39) :
    Calls Tryf.prog 21 #[.slice oA src.length cap, .int .i64 (i : Int), .int .i32 39] w (EBPost src i w) := by
  have e : escO (chA src) 39 i = (i + 1, true) := by
    have hc := chA_lt hlt
    rw [if_pos (by omega)] at hc
    unfold escO
    rw [hc, if_pos]
    unfold escSimple
    simp only [decide_eq_true_eq]
    omega
  have hbl := bt_lt src i
  obtain ⟨b, o, rfl, hbb, hcc⟩ := hsrc.at_ (by omega)
  have c0 : w.cell? ⟨b, o + i, none⟩ = some (.int .u8 (bt src i : Int)) := by
    rw [hcc i hlt]
    simp [bt, List.getD, hlt]
  have E := Lib.hid e
  clear e hcc hsrc
  generalize bt src i = c at *
  rcases h with rfl | rfl | rfl | rfl | rfl | rfl | rfl | rfl | rfl
  all_goals
    simp only [Int.cast_ofNat_Int] at c0
    go_enter Tryf.func21, Tryf.ntmps21
    go_wp2_with fail
    go_ret2
    exact eb_mk E.out (by simp)
set_option maxHeartbeats 4000000 in
theorem eb_none (oA : Option Addr) (cap : Nat) (src : List UInt8) (i : Nat) (w : World) (hsrc : SrcAt w w.heap.size oA src) (hn : src.length ≤ 1048576) (hlt : i < src.length) (hb : bt src i < 128) (h : ¬ (bt src i = 97 ∨ bt src i = 98 ∨ bt src i = 102 ∨ bt src i = 110 ∨ bt src i = 114 ∨ bt src i = 116 ∨ bt src i = 118 ∨ bt src i = 92 ∨ bt src i = 39)) (hN : escN (bt src i : Int) = none) :
    Calls Tryf.prog 21 #[.slice oA src.length cap, .int .i64 (i : Int), .int .i32 39] w (EBPost src i w) := by
  have hnn := escN_none hN
  have e : escO (chA src) 39 i = (i, false) := by
    have hc := chA_lt hlt
    rw [if_pos (by omega)] at hc
    unfold escO
    rw [hc, if_neg, hN]
    unfold escSimple
    simp only [decide_eq_true_eq]
    omega
  have hbl := bt_lt src i
  obtain ⟨b, o, rfl, hbb, hcc⟩ := hsrc.at_ (by omega)
  have c0 : w.cell? ⟨b, o + i, none⟩ = some (.int .u8 (bt src i : Int)) := by
    rw [hcc i hlt]
    simp [bt, List.getD, hlt]
  have v97 : ((bt src i : Int) == 97) = false := by simp; omega
  have v98 : ((bt src i : Int) == 98) = false := by simp; omega
  have v102 : ((bt src i : Int) == 102) = false := by simp; omega
  have v110 : ((bt src i : Int) == 110) = false := by simp; omega
  have v114 : ((bt src i : Int) == 114) = false := by simp; omega
  have v116 : ((bt src i : Int) == 116) = false := by simp; omega
  have v118 : ((bt src i : Int) == 118) = false := by simp; omega
  have v92 : ((bt src i : Int) == 92) = false := by simp; omega
  have v39 : ((bt src i : Int) == 39) = false := by simp; omega
  have v120 : ((bt src i : Int) == 120) = false := by simp; omega
  have v117 : ((bt src i : Int) == 117) = false := by simp; omega
  have v85 : ((bt src i : Int) == 85) = false := by simp; omega
  have E := Lib.hid e
  have q1 : bt src i < 48 ∨ 56 ≤ bt src i := by omega
  have hb2 : (bt src i : Int) < 128 := by omega
  clear e hcc hsrc hN hnn h
  generalize bt src i = c at *
  rcases q1 with q1 | q1
  all_goals
    go_enter Tryf.func21, Tryf.ntmps21
    go_wp2_with fail
    go_ret2
    exact eb_mk E.out rfl
set_option maxHeartbeats 4000000 in
theorem eb_num (oA : Option Addr) (cap : Nat) (src : List UInt8) (i : Nat) (w : World) (hsrc : SrcAt w w.heap.size oA src) (hn : src.length ≤ 1048576) (hlt : i < src.length) (hb : bt src i < 128) (h : ¬ (bt src i = 97 ∨ bt src i = 98 ∨ bt src i = 102 ∨ bt src i = 110 ∨ bt src i = 114 ∨ bt src i = 116 ∨ bt src i = 118 ∨ bt src i = 92 ∨ bt src i = 39)) (n B m : Nat) (k : Bool) (hN : escN (bt src i : Int) = some (n, B, m, k)) :
    Calls Tryf.prog 21 #[.slice oA src.length cap, .int .i64 (i : Int), .int .i32 39] w (EBPost src i w) := by
  have e : escO (chA src) 39 i = ((escLO (chA src) B n 0 (if k then i + 1 else i)).1, escOk m (escLO (chA src) B n 0 (if k then i + 1 else i)).2) := by
    have hc := chA_lt hlt
    rw [if_pos (by omega)] at hc
    unfold escO
    rw [hc, if_neg, hN]
    unfold escSimple
    simp only [decide_eq_true_eq]
    omega
  have hbl := bt_lt src i
  obtain ⟨b, o, rfl, hbb, hcc⟩ := hsrc.at_ (by omega)
  have c0 : w.cell? ⟨b, o + i, none⟩ = some (.int .u8 (bt src i : Int)) := by
    rw [hcc i hlt]
    simp [bt, List.getD, hlt]
  have v97 : ((bt src i : Int) == 97) = false := by simp; omega
  have v98 : ((bt src i : Int) == 98) = false := by simp; omega
  have v102 : ((bt src i : Int) == 102) = false := by simp; omega
  have v110 : ((bt src i : Int) == 110) = false := by simp; omega
  have v114 : ((bt src i : Int) == 114) = false := by simp; omega
  have v116 : ((bt src i : Int) == 116) = false := by simp; omega
  have v118 : ((bt src i : Int) == 118) = false := by simp; omega
  have v92 : ((bt src i : Int) == 92) = false := by simp; omega
  have v39 : ((bt src i : Int) == 39) = false := by simp; omega
  have HO := Lib.hid e
  have hb2 : (bt src i : Int) < 128 := by omega
  have HN := Lib.hid hN
  have HCC := Lib.hid hcc
  clear e hcc hsrc hN h
  generalize bt src i = c at *
  go_enter Tryf.func21, Tryf.ntmps21
  go_upto_region 11 with fail
  go_cut [73] (fun s73 wx => ∃ q : Bool, s73 = .bool q ∧ (q = true ↔ (48 ≤ c ∧ c ≤ 55)) ∧ w = wx)
  case first =>
    rcases (show c < 48 ∨ (48 ≤ c ∧ c ≤ 55) ∨ 56 ≤ c by omega) with hq | hq | hq
    · go_wp2_with fail
      go_meet
      exact ⟨false, rfl, ⟨(fun h => by cases h), (fun h => by omega)⟩, rfl⟩
    · obtain ⟨hq1, hq2⟩ := hq
      go_wp2_with fail
      go_meet
      exact ⟨true, by rw [decide_eq_true (show (c : Int) ≤ 55 by omega)], ⟨fun _ => by omega, fun _ => rfl⟩, rfl⟩
    · go_wp2_with fail
      go_meet
      exact ⟨false, by rw [decide_eq_false (show ¬ (c : Int) ≤ 55 by omega)], ⟨(fun h => by cases h), (fun h => by omega)⟩, rfl⟩
  case rest =>
  obtain ⟨q, rfl, hqq, rfl⟩ := hcut
  have HQ := Lib.hid hqq
  clear hqq
  go_upto_if 73 with fail
  go_cut [9, 10, 11, 12] (fun s9 s10 s11 s12 wx => s9 = .int .i64 (((if k then i + 1 else i) : Nat) : Int) ∧ s10 = .int .i64 (n : Int) ∧ s11 = .int .u32 (B : Int) ∧ s12 = .int .u32 (m : Int) ∧ w = wx)
  case first =>
    have hk := escN_kind HN.out
    rcases hk with ⟨hv, hh⟩ | ⟨hv, hh⟩ | ⟨hv, hh⟩ | ⟨hv, hh⟩ | ⟨hv, hh⟩ | ⟨hv, hh⟩ | ⟨hv, hh⟩ | ⟨hv, hh⟩ | ⟨hv, hh⟩ | ⟨hv, hh⟩ | ⟨hv, hh⟩
    · obtain ⟨rfl, rfl, rfl, rfl⟩ := hh
      obtain rfl : c = 48 := by omega
      obtain rfl : q = true := HQ.out.2 ⟨by decide, by decide⟩
      go_wp2_with fail
      go_meet
      exact ⟨by first | rfl | (simp; done), rfl, rfl, rfl, rfl⟩
    · obtain ⟨rfl, rfl, rfl, rfl⟩ := hh
      obtain rfl : c = 49 := by omega
      obtain rfl : q = true := HQ.out.2 ⟨by decide, by decide⟩
      go_wp2_with fail
      go_meet
      exact ⟨by first | rfl | (simp; done), rfl, rfl, rfl, rfl⟩
    · obtain ⟨rfl, rfl, rfl, rfl⟩ := hh
      obtain rfl : c = 50 := by omega
      obtain rfl : q = true := HQ.out.2 ⟨by decide, by decide⟩
      go_wp2_with fail
      go_meet
      exact ⟨by first | rfl | (simp; done), rfl, rfl, rfl, rfl⟩
    · obtain ⟨rfl, rfl, rfl, rfl⟩ := hh
      obtain rfl : c = 51 := by omega
      obtain rfl : q = true := HQ.out.2 ⟨by decide, by decide⟩
      go_wp2_with fail
      go_meet
      exact ⟨by first | rfl | (simp; done), rfl, rfl, rfl, rfl⟩
    · obtain ⟨rfl, rfl, rfl, rfl⟩ := hh
      obtain rfl : c = 52 := by omega
      obtain rfl : q = true := HQ.out.2 ⟨by decide, by decide⟩
      go_wp2_with fail
      go_meet
      exact ⟨by first | rfl | (simp; done), rfl, rfl, rfl, rfl⟩
    · obtain ⟨rfl, rfl, rfl, rfl⟩ := hh
      obtain rfl : c = 53 := by omega
      obtain rfl : q = true := HQ.out.2 ⟨by decide, by decide⟩
      go_wp2_with fail
      go_meet
      exact ⟨by first | rfl | (simp; done), rfl, rfl, rfl, rfl⟩
    · obtain ⟨rfl, rfl, rfl, rfl⟩ := hh
      obtain rfl : c = 54 := by omega
      obtain rfl : q = true := HQ.out.2 ⟨by decide, by decide⟩
      go_wp2_with fail
      go_meet
      exact ⟨by first | rfl | (simp; done), rfl, rfl, rfl, rfl⟩
    · obtain ⟨rfl, rfl, rfl, rfl⟩ := hh
      obtain rfl : c = 55 := by omega
      obtain rfl : q = true := HQ.out.2 ⟨by decide, by decide⟩
      go_wp2_with fail
      go_meet
      exact ⟨by first | rfl | (simp; done), rfl, rfl, rfl, rfl⟩
    · obtain ⟨rfl, rfl, rfl, rfl⟩ := hh
      obtain rfl : c = 120 := by omega
      obtain rfl : q = false := by cases q; · rfl
                                   · exact absurd (HQ.out.1 rfl) (by decide)
      go_wp2_with fail
      go_meet
      exact ⟨by first | rfl | (simp; done), rfl, rfl, rfl, rfl⟩
    · obtain ⟨rfl, rfl, rfl, rfl⟩ := hh
      obtain rfl : c = 117 := by omega
      obtain rfl : q = false := by cases q; · rfl
                                   · exact absurd (HQ.out.1 rfl) (by decide)
      go_wp2_with fail
      go_meet
      exact ⟨by first | rfl | (simp; done), rfl, rfl, rfl, rfl⟩
    · obtain ⟨rfl, rfl, rfl, rfl⟩ := hh
      obtain rfl : c = 85 := by omega
      obtain rfl : q = false := by cases q; · rfl
                                   · exact absurd (HQ.out.1 rfl) (by decide)
      go_wp2_with fail
      go_meet
      exact ⟨by first | rfl | (simp; done), rfl, rfl, rfl, rfl⟩
  case rest =>
    obtain ⟨rfl, rfl, rfl, rfl, rfl⟩ := hcut
    obtain ⟨p, hp⟩ : ∃ p, (if k then i + 1 else i) = p := ⟨_, rfl⟩
    rw [hp] at HO ⊢
    have hpi : p ≤ i + 1 := by rw [← hp]; cases k <;> simp
    have hkind := escN_some HN.out
    have hn8 : n ≤ 8 := hkind.2.2.1
    have hb816 := hkind.2.2.2.2
    have hm1 : m ≤ 1114111 := escN_max HN.out
    clear hp hkind HN HQ v97 v98 v102 v110 v114 v116 v118 v92 v39 c0 hb2 hb
    rcases hb816 with rfl | rfl
    · simp only [Int.cast_ofNat_Int]
      go_wp2_with fail
      go_loop [13, 14] (fun v13 v14 => ∃ j x : Nat, j ≤ n ∧ v14 = .int .i64 (j : Int) ∧ v13 = .int .u32 (x : Int) ∧ x < 8 ^ j ∧ escLO (chA src) 8 (n - j) x (p + j) = escLO (chA src) 8 n 0 p) (fun _ v14 => n - (intOf v14).toNat)
      case atStart => exact ⟨0, 0, Nat.zero_le _, rfl, rfl, by simp, rfl⟩
      case round =>
        obtain ⟨j, x, hj, rfl, rfl, hx, hr⟩ := hrel
        have HR := Lib.hid hr
        clear hr
        obtain ⟨q, hq⟩ : ∃ q : Nat, p + j = q := ⟨_, rfl⟩
        rw [hq] at HR
        have hqi : (p : Int) + (j : Int) = (q : Int) := by omega
        by_cases hjn : j = n
        · subst hjn
          have hx2 : x < 4294967296 := by
            have : 8 ^ j ≤ 16 ^ 8 := Nat.le_trans (Nat.pow_le_pow_left (by decide) _) (Nat.pow_le_pow_right (by decide) (by omega))
            omega
          rw [Nat.sub_self] at HR
          have HE : ∀ ok, escOk m (some x) = ok → Hid (escO (chA src) 39 i = (q, ok)) := fun ok hok => Lib.hid (by
            rw [HO.out, ← HR.out, ← hok]
            rfl)
          clear hx HR
          have h4 : (m < x) ∨ (x ≤ m ∧ 55296 ≤ x ∧ x < 57344) ∨ (x ≤ m ∧ x < 55296) ∨ (x ≤ m ∧ 57344 ≤ x) := by omega
          rcases h4 with h4 | ⟨h4, h5, h6⟩ | ⟨h4, h5⟩ | ⟨h4, h5⟩
          · have t1 : decide ((x : Int) > (m : Int)) = true := by simp; omega
            have E := HE false (decide_eq_false (by omega))
            clear HE
            go_wp2_with fail
            go_ret2
            exact eb_mk E.out rfl
          · have t1 : decide ((x : Int) > (m : Int)) = false := by simp; omega
            have t2 : decide (55296 ≤ (x : Int)) = true := by simp; omega
            have t3 : decide ((x : Int) < 57344) = true := by simp; omega
            have E := HE false (decide_eq_false (by omega))
            clear HE
            go_wp2_with fail
            go_ret2
            exact eb_mk E.out rfl
          · have t1 : decide ((x : Int) > (m : Int)) = false := by simp; omega
            have t2 : decide (55296 ≤ (x : Int)) = false := by simp; omega
            have E := HE true (decide_eq_true (by omega))
            clear HE
            go_wp2_with fail
            go_ret2
            exact eb_mk E.out rfl
          · have E := HE true (decide_eq_true (by omega))
            have h4i : (x : Int) ≤ (m : Int) := by omega
            have h5i : (57344 : Int) ≤ (x : Int) := by omega
            have h6i : (55296 : Int) ≤ (x : Int) := by omega
            clear HE h4 h5
            go_wp2_with fail
            go_ret2
            exact eb_mk E.out rfl
        · have hlt2 : j < n := by omega
          obtain ⟨r, hrr⟩ : ∃ r, n - j = r + 1 := ⟨n - j - 1, by omega⟩
          have hr2 : n - (j + 1) = r := by omega
          have hx2 : x < 268435456 := by
            have : 8 ^ j ≤ 16 ^ 7 := Nat.le_trans (Nat.pow_le_pow_left (by decide) _) (Nat.pow_le_pow_right (by decide) (by omega))
            omega
          rw [hrr, escLO] at HR
          by_cases hqs : q < src.length
          rotate_left
          · have E : Hid (escO (chA src) 39 i = (q, false)) := Lib.hid (by
              rw [HO.out, ← HR.out, chA_ge (by omega), if_neg (by decide)]
              rfl)
            clear hx HR hrr hr2 hq
            go_wp2_with fail
            go_ret2
            exact eb_mk E.out rfl
          have c1 : w.cell? ⟨b, o + q, none⟩ = some (.int .u8 (bt src q : Int)) := by
            rw [HCC.out q hqs]
            simp [bt, List.getD, hqs]
          have HDV := Lib.hid (hexv_any (bt src q) w (bt_lt src q))
          rw [← chA_lt hqs] at HDV
          have hbq := bt_lt src q
          have hdr := dv_range (chA src q)
          obtain ⟨dd, hdd⟩ : ∃ dd : Nat, dv (chA src q) = dd := ⟨(dv (chA src q)).toNat, by omega⟩
          rw [hdd] at HDV hdr HR
          generalize bt src q = cq at c1 HDV hbq
          by_cases hd : dd < 8
          · rw [if_pos (by omega), Int.toNat_natCast] at HR
            have t1 : decide ((dd : Int) ≥ 8) = false := by simp; omega
            have hxx : x * 8 + dd < 8 ^ (j + 1) := by
              rw [Nat.pow_succ]
              omega
            have HXX := Lib.hid hxx
            have HRN : Hid (escLO (chA src) 8 (n - (j + 1)) (x * 8 + dd) (p + (j + 1)) = escLO (chA src) 8 n 0 p) := Lib.hid (by rw [hr2, show p + (j + 1) = q + 1 by omega]; exact HR.out)
            clear hx hxx HR hrr hr2 hdd hq
            go_wp2_with (go_at_call 27; refine HDV.out.mono ?_; rintro e w' ⟨rfl, rfl⟩)
            go_round
            case rel => exact ⟨j + 1, x * 8 + dd, by omega, by go_num, by go_num, HXX.out, HRN.out⟩
            case measure => simp [intOf]; omega
          · rw [if_neg (by omega)] at HR
            have t1 : decide ((dd : Int) ≥ 8) = true := by simp; omega
            have E : Hid (escO (chA src) 39 i = (q, false)) := Lib.hid (by rw [HO.out, ← HR.out]; rfl)
            clear hx HR hrr hr2 hdd hq
            go_wp2_with (go_at_call 27; refine HDV.out.mono ?_; rintro e w' ⟨rfl, rfl⟩)
            go_ret2
            exact eb_mk E.out rfl
    · simp only [Int.cast_ofNat_Int]
      go_wp2_with fail
      go_loop [13, 14] (fun v13 v14 => ∃ j x : Nat, j ≤ n ∧ v14 = .int .i64 (j : Int) ∧ v13 = .int .u32 (x : Int) ∧ x < 16 ^ j ∧ escLO (chA src) 16 (n - j) x (p + j) = escLO (chA src) 16 n 0 p) (fun _ v14 => n - (intOf v14).toNat)
      case atStart => exact ⟨0, 0, Nat.zero_le _, rfl, rfl, by simp, rfl⟩
      case round =>
        obtain ⟨j, x, hj, rfl, rfl, hx, hr⟩ := hrel
        have HR := Lib.hid hr
        clear hr
        obtain ⟨q, hq⟩ : ∃ q : Nat, p + j = q := ⟨_, rfl⟩
        rw [hq] at HR
        have hqi : (p : Int) + (j : Int) = (q : Int) := by omega
        by_cases hjn : j = n
        · subst hjn
          have hx2 : x < 4294967296 := by
            have : 16 ^ j ≤ 16 ^ 8 := Nat.le_trans (Nat.pow_le_pow_left (by decide) _) (Nat.pow_le_pow_right (by decide) (by omega))
            omega
          rw [Nat.sub_self] at HR
          have HE : ∀ ok, escOk m (some x) = ok → Hid (escO (chA src) 39 i = (q, ok)) := fun ok hok => Lib.hid (by
            rw [HO.out, ← HR.out, ← hok]
            rfl)
          clear hx HR
          have h4 : (m < x) ∨ (x ≤ m ∧ 55296 ≤ x ∧ x < 57344) ∨ (x ≤ m ∧ x < 55296) ∨ (x ≤ m ∧ 57344 ≤ x) := by omega
          rcases h4 with h4 | ⟨h4, h5, h6⟩ | ⟨h4, h5⟩ | ⟨h4, h5⟩
          · have t1 : decide ((x : Int) > (m : Int)) = true := by simp; omega
            have E := HE false (decide_eq_false (by omega))
            clear HE
            go_wp2_with fail
            go_ret2
            exact eb_mk E.out rfl
          · have t1 : decide ((x : Int) > (m : Int)) = false := by simp; omega
            have t2 : decide (55296 ≤ (x : Int)) = true := by simp; omega
            have t3 : decide ((x : Int) < 57344) = true := by simp; omega
            have E := HE false (decide_eq_false (by omega))
            clear HE
            go_wp2_with fail
            go_ret2
            exact eb_mk E.out rfl
          · have t1 : decide ((x : Int) > (m : Int)) = false := by simp; omega
            have t2 : decide (55296 ≤ (x : Int)) = false := by simp; omega
            have E := HE true (decide_eq_true (by omega))
            clear HE
            go_wp2_with fail
            go_ret2
            exact eb_mk E.out rfl
          · have E := HE true (decide_eq_true (by omega))
            have h4i : (x : Int) ≤ (m : Int) := by omega
            have h5i : (57344 : Int) ≤ (x : Int) := by omega
            have h6i : (55296 : Int) ≤ (x : Int) := by omega
            clear HE h4 h5
            go_wp2_with fail
            go_ret2
            exact eb_mk E.out rfl
        · have hlt2 : j < n := by omega
          obtain ⟨r, hrr⟩ : ∃ r, n - j = r + 1 := ⟨n - j - 1, by omega⟩
          have hr2 : n - (j + 1) = r := by omega
          have hx2 : x < 268435456 := by
            have : 16 ^ j ≤ 16 ^ 7 := Nat.le_trans (Nat.pow_le_pow_left (by decide) _) (Nat.pow_le_pow_right (by decide) (by omega))
            omega
          rw [hrr, escLO] at HR
          by_cases hqs : q < src.length
          rotate_left
          · have E : Hid (escO (chA src) 39 i = (q, false)) := Lib.hid (by
              rw [HO.out, ← HR.out, chA_ge (by omega), if_neg (by decide)]
              rfl)
            clear hx HR hrr hr2 hq
            go_wp2_with fail
            go_ret2
            exact eb_mk E.out rfl
          have c1 : w.cell? ⟨b, o + q, none⟩ = some (.int .u8 (bt src q : Int)) := by
            rw [HCC.out q hqs]
            simp [bt, List.getD, hqs]
          have HDV := Lib.hid (hexv_any (bt src q) w (bt_lt src q))
          rw [← chA_lt hqs] at HDV
          have hbq := bt_lt src q
          have hdr := dv_range (chA src q)
          obtain ⟨dd, hdd⟩ : ∃ dd : Nat, dv (chA src q) = dd := ⟨(dv (chA src q)).toNat, by omega⟩
          rw [hdd] at HDV hdr HR
          generalize bt src q = cq at c1 HDV hbq
          by_cases hd : dd < 16
          · rw [if_pos (by omega), Int.toNat_natCast] at HR
            have t1 : decide ((dd : Int) ≥ 16) = false := by simp; omega
            have hxx : x * 16 + dd < 16 ^ (j + 1) := by
              rw [Nat.pow_succ]
              omega
            have HXX := Lib.hid hxx
            have HRN : Hid (escLO (chA src) 16 (n - (j + 1)) (x * 16 + dd) (p + (j + 1)) = escLO (chA src) 16 n 0 p) := Lib.hid (by rw [hr2, show p + (j + 1) = q + 1 by omega]; exact HR.out)
            clear hx hxx HR hrr hr2 hdd hq
            go_wp2_with (go_at_call 27; refine HDV.out.mono ?_; rintro e w' ⟨rfl, rfl⟩)
            go_round
            case rel => exact ⟨j + 1, x * 16 + dd, by omega, by go_num, by go_num, HXX.out, HRN.out⟩
            case measure => simp [intOf]; omega
          · rw [if_neg (by omega)] at HR
            have t1 : decide ((dd : Int) ≥ 16) = true := by simp; omega
            have E : Hid (escO (chA src) 39 i = (q, false)) := Lib.hid (by rw [HO.out, ← HR.out]; rfl)
            clear hx HR hrr hr2 hdd hq
            go_wp2_with (go_at_call 27; refine HDV.out.mono ?_; rintro e w' ⟨rfl, rfl⟩)
            go_ret2
            exact eb_mk E.out rfl
theorem eb_any (oA : Option Addr) (cap : Nat) (src : List UInt8) (i : Nat) (w : World) (hsrc : SrcAt w w.heap.size oA src) (hn : src.length ≤ 1048576) (hi : i ≤ 1048586) :
    Calls Tryf.prog 21 #[.slice oA src.length cap, .int .i64 (i : Int), .int .i32 39] w (EBPost src i w) := by
  by_cases h1 : src.length ≤ i ∨ 128 ≤ bt src i
  · exact eb_low oA cap src i w hsrc hn hi h1
  · by_cases h2 : bt src i = 97 ∨ bt src i = 98 ∨ bt src i = 102 ∨ bt src i = 110 ∨ bt src i = 114 ∨ bt src i = 116 ∨ bt src i = 118 ∨ bt src i = 92 ∨ bt src i = 39
    · exact eb_simple oA cap src i w hsrc hn (by omega) h2
    · rcases hN : escN (bt src i : Int) with _ | ⟨n, B, m, k⟩
      · exact eb_none oA cap src i w hsrc hn (by omega) (by omega) h2 hN
      · exact eb_num oA cap src i w hsrc hn (by omega) (by omega) h2 n B m k hN
end Go.Proofs.YtkhekeepadeldaaFmt
