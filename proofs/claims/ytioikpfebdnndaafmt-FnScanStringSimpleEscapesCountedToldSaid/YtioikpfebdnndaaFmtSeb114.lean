/-
  The law's own reading of a string's body, and its comparison of texts. Conditions: as stated.
-/
import Derived.Test.YtioikpfebdnndaaFmtSlG
import Derived.Test.YtioikpfebdnndaaFmtEscMG
namespace Go.Proofs.YtioikpfebdnndaaFmt
open Go.RowKit
set_option maxRecDepth 100000
set_option linter.unusedVariables false

set_option maxHeartbeats 1000000 in
theorem simple_any (d : Nat) (w : World) (hd : d < 256) : Calls Tryf.prog 29 #[.int .u8 (d : Int)] w fun e w' => e = .returned (.bool (escSimple 34 (d : Int))) ∧ w = w' := by
  by_cases k97 : d = 97
  · have e : escSimple 34 (d : Int) = true := decide_eq_true (by omega)
    rw [e]
    subst k97
    clear e hd
    go_enter Tryf.func29, Tryf.ntmps29
    go_wp2_with fail
    go_ret
    exact ⟨rfl, rfl⟩
  have n97 : ((d : Int) == 97) = false := by simp; omega
  by_cases k98 : d = 98
  · have e : escSimple 34 (d : Int) = true := decide_eq_true (by omega)
    rw [e]
    subst k98
    clear e hd
    go_enter Tryf.func29, Tryf.ntmps29
    go_wp2_with fail
    go_ret
    exact ⟨rfl, rfl⟩
  have n98 : ((d : Int) == 98) = false := by simp; omega
  by_cases k102 : d = 102
  · have e : escSimple 34 (d : Int) = true := decide_eq_true (by omega)
    rw [e]
    subst k102
    clear e hd
    go_enter Tryf.func29, Tryf.ntmps29
    go_wp2_with fail
    go_ret
    exact ⟨rfl, rfl⟩
  have n102 : ((d : Int) == 102) = false := by simp; omega
  by_cases k110 : d = 110
  · have e : escSimple 34 (d : Int) = true := decide_eq_true (by omega)
    rw [e]
    subst k110
    clear e hd
    go_enter Tryf.func29, Tryf.ntmps29
    go_wp2_with fail
    go_ret
    exact ⟨rfl, rfl⟩
  have n110 : ((d : Int) == 110) = false := by simp; omega
  by_cases k114 : d = 114
  · have e : escSimple 34 (d : Int) = true := decide_eq_true (by omega)
    rw [e]
    subst k114
    clear e hd
    go_enter Tryf.func29, Tryf.ntmps29
    go_wp2_with fail
    go_ret
    exact ⟨rfl, rfl⟩
  have n114 : ((d : Int) == 114) = false := by simp; omega
  by_cases k116 : d = 116
  · have e : escSimple 34 (d : Int) = true := decide_eq_true (by omega)
    rw [e]
    subst k116
    clear e hd
    go_enter Tryf.func29, Tryf.ntmps29
    go_wp2_with fail
    go_ret
    exact ⟨rfl, rfl⟩
  have n116 : ((d : Int) == 116) = false := by simp; omega
  by_cases k118 : d = 118
  · have e : escSimple 34 (d : Int) = true := decide_eq_true (by omega)
    rw [e]
    subst k118
    clear e hd
    go_enter Tryf.func29, Tryf.ntmps29
    go_wp2_with fail
    go_ret
    exact ⟨rfl, rfl⟩
  have n118 : ((d : Int) == 118) = false := by simp; omega
  by_cases k92 : d = 92
  · have e : escSimple 34 (d : Int) = true := decide_eq_true (by omega)
    rw [e]
    subst k92
    clear e hd
    go_enter Tryf.func29, Tryf.ntmps29
    go_wp2_with fail
    go_ret
    exact ⟨rfl, rfl⟩
  have n92 : ((d : Int) == 92) = false := by simp; omega
  by_cases k34 : d = 34
  · have e : escSimple 34 (d : Int) = true := decide_eq_true (by omega)
    rw [e]
    subst k34
    clear e hd
    go_enter Tryf.func29, Tryf.ntmps29
    go_wp2_with fail
    go_ret
    exact ⟨rfl, rfl⟩
  have n34 : ((d : Int) == 34) = false := by simp; omega
  have e : escSimple 34 (d : Int) = false := decide_eq_false (by omega)
  rw [e]
  clear e k97 k98 k102 k110 k114 k116 k118 k92 k34
  go_enter Tryf.func29, Tryf.ntmps29
  go_wp2_with fail
  go_ret
  exact ⟨rfl, rfl⟩

def numEsc (d : Nat) : Prop := (48 ≤ d ∧ d ≤ 55) ∨ d = 120 ∨ d = 117 ∨ d = 85
/-- the law's own reading of a body: from place i on, so many unknown escapes -/
inductive SebR (l : List UInt8) : Nat → Nat → Prop
  | done : SebR l l.length 0
  | esc {i n : Nat} : bt l i = 92 → i + 1 < l.length → 32 ≤ bt l (i + 1) → bt l (i + 1) ≤ 126 → ¬ numEsc (bt l (i + 1)) → SebR l (i + 2) n → SebR l i (n + if escSimple 34 (bt l (i + 1) : Int) then 0 else 1)
  | plain {i n : Nat} : i < l.length → bt l i ≠ 92 → 32 ≤ bt l i → bt l i ≤ 126 → bt l i ≠ 34 → SebR l (i + 1) n → SebR l i n
def SebPost (l : List UInt8) (w : World) (e : Ending) (w' : World) : Prop :=
  ∃ (n : Nat) (ok : Bool), e = .returned (.tuple #[.int .i64 (n : Int), .bool ok]) ∧ (ok = true → SebR l 0 n) ∧ w = w'

set_option maxHeartbeats 4000000 in
theorem seb_any (oA : Option Addr) (cap : Nat) (l : List UInt8) (w : World) (hsrc : SrcAt w w.heap.size oA l) (hn : l.length ≤ 65536) : Calls Tryf.prog 15 #[.slice oA l.length cap] w (SebPost l w) := by
  have HS := Lib.hid hsrc
  clear hsrc
  go_enter Tryf.func15, Tryf.ntmps15
  go_wp2_with fail
  go_loopw [4, 5] (fun v4 v5 wr => ∃ (k uu : Nat), k ≤ l.length ∧ uu ≤ k ∧ v5 = .int .i64 (k : Int) ∧ v4 = .int .i64 (uu : Int) ∧ (∀ n, SebR l k n → SebR l 0 (uu + n)) ∧ w = wr) (fun _ v5 _ => l.length - (intOf v5).toNat)
  case atStart => exact ⟨0, 0, Nat.zero_le _, Nat.le_refl _, rfl, rfl, fun n h => by rw [Nat.zero_add]; exact h, rfl⟩
  case round =>
    obtain ⟨k, uu, hk, huu, rfl, rfl, hgo, rfl⟩ := hrel
    have HGO := Lib.hid hgo
    clear hgo
    by_cases hlt : k < l.length
    · have tl : decide ((k : Int) < (l.length : Int)) = true := by simp; omega
      obtain ⟨b, o, rfl, hbb, hcc⟩ := HS.out.at_ (by omega)
      have c1 : w.cell? ⟨b, o + k, none⟩ = some (.int .u8 (bt l k : Int)) := by
        rw [hcc k hlt]
        simp [bt, List.getD, hlt]
      have hb1 := bt_lt l k
      have hb2 := bt_lt l (k + 1)
      by_cases h92 : bt l k = 92
      · have y92 : ((bt l k : Int) == 92) = true := by simp; omega
        have H92 := Lib.hid h92
        rw [h92] at c1
        clear h92 y92
        by_cases hk1 : k + 1 < l.length
        · have t1 : decide ((k : Int) + 1 ≥ (l.length : Int)) = false := by simp; omega
          have c2 : w.cell? ⟨b, o + (k + 1), none⟩ = some (.int .u8 (bt l (k + 1) : Int)) := by
            rw [hcc (k + 1) hk1]
            simp [bt, List.getD, hk1]
          clear hcc
          by_cases x32 : bt l (k + 1) < 32
          · have y32 : decide ((bt l (k + 1) : Int) < 32) = true := by simp; omega
            clear x32
            go_wp2_with fail
            go_ret2
            exact ⟨0, false, rfl, (fun h => nomatch h), rfl⟩
          have y32 : decide ((bt l (k + 1) : Int) < 32) = false := by simp; omega
          by_cases x126 : 126 < bt l (k + 1)
          · have y126 : decide ((bt l (k + 1) : Int) > 126) = true := by simp; omega
            clear x126
            go_wp2_with fail
            go_ret2
            exact ⟨0, false, rfl, (fun h => nomatch h), rfl⟩
          have y126 : decide ((bt l (k + 1) : Int) > 126) = false := by simp; omega
          by_cases x48 : 48 ≤ bt l (k + 1) ∧ bt l (k + 1) ≤ 55
          · have y48 : decide (48 ≤ (bt l (k + 1) : Int)) = true := by simp; omega
            have y55 : decide ((bt l (k + 1) : Int) ≤ 55) = true := by simp; omega
            clear x48
            go_wp2_with fail
            go_ret2
            exact ⟨0, false, rfl, (fun h => nomatch h), rfl⟩
          have yy : (decide (48 ≤ (bt l (k + 1) : Int)) = false) ∨ (decide (48 ≤ (bt l (k + 1) : Int)) = true ∧ decide ((bt l (k + 1) : Int) ≤ 55) = false) := by
            by_cases h48 : 48 ≤ bt l (k + 1)
            · exact Or.inr ⟨by simp; omega, by simp; omega⟩
            · exact Or.inl (by simp; omega)
          rcases yy with y48 | ⟨y48, y55⟩
          · by_cases x120 : bt l (k + 1) = 120
            · have y120 : ((bt l (k + 1) : Int) == 120) = true := by simp; omega
              clear x120
              go_wp2_with fail
              go_ret2
              exact ⟨0, false, rfl, (fun h => nomatch h), rfl⟩
            have y120 : ((bt l (k + 1) : Int) == 120) = false := by simp; omega
            by_cases x117 : bt l (k + 1) = 117
            · have y117 : ((bt l (k + 1) : Int) == 117) = true := by simp; omega
              clear x117
              go_wp2_with fail
              go_ret2
              exact ⟨0, false, rfl, (fun h => nomatch h), rfl⟩
            have y117 : ((bt l (k + 1) : Int) == 117) = false := by simp; omega
            by_cases x85 : bt l (k + 1) = 85
            · have y85 : ((bt l (k + 1) : Int) == 85) = true := by simp; omega
              clear x85
              go_wp2_with fail
              go_ret2
              exact ⟨0, false, rfl, (fun h => nomatch h), rfl⟩
            have y85 : ((bt l (k + 1) : Int) == 85) = false := by simp; omega
            have HNN : Hid (¬ numEsc (bt l (k + 1))) := Lib.hid (by unfold numEsc; omega)
            have HGN := Lib.hid (fun n (h : SebR l (k + 2) n) => HGO.out _ (SebR.esc H92.out hk1 (by omega) (by omega) HNN.out h))
            have HSM := Lib.hid (simple_any (bt l (k + 1)) w (by omega))
            rcases hsm : escSimple 34 (bt l (k + 1) : Int) with _ | _
            · rw [hsm] at HSM HGN
              clear hsm
              go_wp2_with (go_at_call 29; refine HSM.out.mono ?_; rintro e w' ⟨rfl, rfl⟩)
              go_roundw
              case rel => exact ⟨k + 2, uu + 1, by omega, by omega, by go_num, by go_num, fun n h => by have := HGN.out n h; rw [if_neg (by decide)] at this; rw [show uu + 1 + n = uu + (n + 1) by omega]; exact this, by simp⟩
              case measure => simp [intOf]; omega
            · rw [hsm] at HSM HGN
              clear hsm
              go_wp2_with (go_at_call 29; refine HSM.out.mono ?_; rintro e w' ⟨rfl, rfl⟩)
              go_roundw
              case rel => exact ⟨k + 2, uu, by omega, by omega, by go_num, by go_num, fun n h => by have := HGN.out n h; simpa using this, by simp⟩
              case measure => simp [intOf]; omega
          · by_cases x120 : bt l (k + 1) = 120
            · have y120 : ((bt l (k + 1) : Int) == 120) = true := by simp; omega
              clear x120
              go_wp2_with fail
              go_ret2
              exact ⟨0, false, rfl, (fun h => nomatch h), rfl⟩
            have y120 : ((bt l (k + 1) : Int) == 120) = false := by simp; omega
            by_cases x117 : bt l (k + 1) = 117
            · have y117 : ((bt l (k + 1) : Int) == 117) = true := by simp; omega
              clear x117
              go_wp2_with fail
              go_ret2
              exact ⟨0, false, rfl, (fun h => nomatch h), rfl⟩
            have y117 : ((bt l (k + 1) : Int) == 117) = false := by simp; omega
            by_cases x85 : bt l (k + 1) = 85
            · have y85 : ((bt l (k + 1) : Int) == 85) = true := by simp; omega
              clear x85
              go_wp2_with fail
              go_ret2
              exact ⟨0, false, rfl, (fun h => nomatch h), rfl⟩
            have y85 : ((bt l (k + 1) : Int) == 85) = false := by simp; omega
            have HNN : Hid (¬ numEsc (bt l (k + 1))) := Lib.hid (by unfold numEsc; omega)
            have HGN := Lib.hid (fun n (h : SebR l (k + 2) n) => HGO.out _ (SebR.esc H92.out hk1 (by omega) (by omega) HNN.out h))
            have HSM := Lib.hid (simple_any (bt l (k + 1)) w (by omega))
            rcases hsm : escSimple 34 (bt l (k + 1) : Int) with _ | _
            · rw [hsm] at HSM HGN
              clear hsm
              go_wp2_with (go_at_call 29; refine HSM.out.mono ?_; rintro e w' ⟨rfl, rfl⟩)
              go_roundw
              case rel => exact ⟨k + 2, uu + 1, by omega, by omega, by go_num, by go_num, fun n h => by have := HGN.out n h; rw [if_neg (by decide)] at this; rw [show uu + 1 + n = uu + (n + 1) by omega]; exact this, by simp⟩
              case measure => simp [intOf]; omega
            · rw [hsm] at HSM HGN
              clear hsm
              go_wp2_with (go_at_call 29; refine HSM.out.mono ?_; rintro e w' ⟨rfl, rfl⟩)
              go_roundw
              case rel => exact ⟨k + 2, uu, by omega, by omega, by go_num, by go_num, fun n h => by have := HGN.out n h; simpa using this, by simp⟩
              case measure => simp [intOf]; omega
        · have t1 : decide ((k : Int) + 1 ≥ (l.length : Int)) = true := by simp; omega
          clear hcc
          go_wp2_with fail
          go_ret2
          exact ⟨0, false, rfl, (fun h => nomatch h), rfl⟩
      · have y92 : ((bt l k : Int) == 92) = false := by simp; omega
        clear hcc
        by_cases x32 : bt l k < 32
        · have y32 : decide ((bt l k : Int) < 32) = true := by simp; omega
          clear x32
          go_wp2_with fail
          go_ret2
          exact ⟨0, false, rfl, (fun h => nomatch h), rfl⟩
        have y32 : decide ((bt l k : Int) < 32) = false := by simp; omega
        by_cases x126 : 126 < bt l k
        · have y126 : decide ((bt l k : Int) > 126) = true := by simp; omega
          clear x126
          go_wp2_with fail
          go_ret2
          exact ⟨0, false, rfl, (fun h => nomatch h), rfl⟩
        have y126 : decide ((bt l k : Int) > 126) = false := by simp; omega
        by_cases x34 : bt l k = 34
        · have y34 : ((bt l k : Int) == 34) = true := by simp; omega
          clear x34
          go_wp2_with fail
          go_ret2
          exact ⟨0, false, rfl, (fun h => nomatch h), rfl⟩
        have y34 : ((bt l k : Int) == 34) = false := by simp; omega
        have HGN := Lib.hid (fun n (h : SebR l (k + 1) n) => HGO.out _ (SebR.plain hlt h92 (by omega) (by omega) x34 h))
        clear h92 x34
        go_wp2_with fail
        go_roundw
        case rel => exact ⟨k + 1, uu, by omega, by omega, by go_num, by go_num, HGN.out, by simp⟩
        case measure => simp [intOf]; omega
    · obtain rfl : k = l.length := by omega
      have tl : decide ((l.length : Int) < (l.length : Int)) = false := by simp
      have HD := Lib.hid (HGO.out 0 SebR.done)
      go_wp2_with fail
      go_ret2
      exact ⟨uu, true, rfl, fun _ => HD.out, rfl⟩

set_option maxHeartbeats 400000 in
theorem sameText_any (l : List UInt8) (b o cap : Nat) (w : World) (hl : l.length ≤ 1048576) (hc : ∀ i (h : i < l.length), w.cell? ⟨b, o + i, none⟩ = some (.int .u8 (l[i].toNat : Int))) :
    Calls Tryf.prog 17 #[.string ⟨l.toArray⟩, .slice (some ⟨b, o, none⟩) l.length cap] w fun e w' => e = .returned (.bool true) ∧ Qt w w' := by
  have hss : (ByteArray.mk l.toArray).size = l.length := by simp [ByteArray.size]
  have HC := Lib.hid hc
  clear hc
  go_enter Tryf.func17, Tryf.ntmps17
  go_wp2_with fail
  go_loopw [5] (fun i wr => ∃ k : Nat, k ≤ l.length ∧ i = .int .i64 k ∧ Qt w wr) (fun i _ => l.length - (intOf i).toNat)
  case atStart => exact ⟨0, Nat.zero_le _, rfl, Qt.refl _⟩
  case round =>
    obtain ⟨k, hk, rfl, hq⟩ := hrel
    by_cases hlt : k < l.length
    · have c1 := (hq.cell _).trans (HC.out k hlt)
      have hx : ∀ W : World, (Instr.index 9 (.string ⟨l.toArray⟩) (.int .i64 (k : Int))).run Tryf.prog W = .ok (.int .u8 (l[k].toNat : Int)) W := by
        intro W
        rw [run_index_string W _ _ _ _ Tryf.underlying9, dif_pos (by omega)]
        rfl
      have tl : decide ((k : Int) < (l.length : Int)) = true := by simp; omega
      have HQ := Lib.hid hq
      clear hq
      go_wp2_with fail
      go_quiet (fail)
      go_wp2_with fail
      go_roundw
      case rel => exact ⟨k + 1, by omega, by go_num, HQ.out.drewN _⟩
      case measure => simp [intOf]; omega
    · obtain rfl : k = l.length := by omega
      have HQ := Lib.hid hq
      clear hq
      go_wp2_with fail
      go_ret
      exact ⟨rfl, HQ.out⟩
end Go.Proofs.YtioikpfebdnndaaFmt
