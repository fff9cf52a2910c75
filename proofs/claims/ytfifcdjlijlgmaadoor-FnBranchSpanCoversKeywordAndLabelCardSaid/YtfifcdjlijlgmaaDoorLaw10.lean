/-
  FnBranchSpanCoversKeywordAndLabel, walked. Conditions: the token table reads as laid.
-/
import Derived.Test.YtfifcdjlijlgmaaDoorSl
namespace Go.Proofs.YtfifcdjlijlgmaaDoor
open Go.RowKit
set_option maxRecDepth 100000
set_option linter.unusedVariables false

set_option maxHeartbeats 400000 in
theorem bytes_10 (p : Int) (c : Bool) (gp : Int) (s3 : List UInt8) (w : World) (h3 : s3.length ≤ 9223372036854775807) :
    Calls Tryd.prog 4 #[.int .i64 p, .bool c, .int .i64 gp, .string ⟨s3.toArray⟩] w fun e w' => e = .returned (.bool (decide (s3.length ≤ 1048576))) ∧ w = w' := by
  go_enter Tryd.func4, Tryd.ntmps4
  go_wp2
  all_goals (go_ret; first | exact ⟨ret_t (by omega), rfl⟩ | exact ⟨ret_f (by omega), rfl⟩)

/-- the keyword and k blanks -/
def kwp (kw : List UInt8) (k : Nat) : List UInt8 := kw ++ List.replicate k 32
theorem kwp_succ (kw : List UInt8) (k : Nat) : kwp kw (k + 1) = kwp kw k ++ [UInt8.ofNat 32] := by
  unfold kwp
  rw [List.replicate_succ', List.append_assoc]
  rfl
set_option maxHeartbeats 400000 in
theorem str_at (n : Int) (w : World) (s : ByteArray) (h0 : 0 ≤ n) (h1 : n < 75) (hc : w.cell? ⟨0, n.toNat, none⟩ = some (.string s)) (hs1 : s.toList.isEmpty = false) :
    Calls Tryd.prog 9 #[.int .i64 n] w fun e w' => e = .returned (.string s) ∧ w = w' := by
  go_enter Tryd.func9, Tryd.ntmps9
  go_wp2_with fail
  go_ret
  exact ⟨rfl, rfl⟩
set_option maxHeartbeats 400000 in
theorem pos_any (g : Nat) (p : Int) (w : World) (hc : w.cell? ⟨g, 1, none⟩ = some (.int .i64 p)) :
    Calls Tryd.prog 5 #[.pointer (some ⟨g, 0, none⟩)] w fun e w' => e = .returned (.int .i64 p) ∧ w = w' := by
  go_enter Tryd.func5, Tryd.ntmps5
  go_wp2_with fail
  go_ret
  exact ⟨rfl, rfl⟩
set_option maxHeartbeats 400000 in
theorem idEnd_any (g : Nat) (p : Nat) (s : List UInt8) (w : World) (hp : p ≤ 2199023255552) (hs : s.length ≤ 524288) (hc0 : w.cell? ⟨g, 0, none⟩ = some (.string ⟨s.toArray⟩)) (hc1 : w.cell? ⟨g, 1, none⟩ = some (.int .i64 (p : Int))) :
    Calls Tryd.prog 8 #[.pointer (some ⟨g, 0, none⟩)] w fun e w' => e = .returned (.int .i64 ((p + s.length : Nat) : Int)) ∧ Qt w w' := by
  have hss : (ByteArray.mk s.toArray).size = s.length := by simp [ByteArray.size]
  have ew : IntKind.i64.wrap ((p : Int) + (s.length : Int)) = (p : Int) + (s.length : Int) := IntWalk.i64_in _ (by omega)
  go_enter Tryd.func8, Tryd.ntmps8
  go_wp2_with fail
  go_quiet (fail)
  clear ew
  go_wp2_with fail
  go_ret
  exact ⟨by go_num, (Qt.refl w).drewN _⟩
set_option maxHeartbeats 400000 in
theorem endLab_any (g g2 : Nat) (p : Nat) (s : List UInt8) (w : World) (hp : p ≤ 2199023255552) (hs : s.length ≤ 524288) (hc : w.cell? ⟨g, 2, none⟩ = some (.pointer (some ⟨g2, 0, none⟩))) (hc0 : w.cell? ⟨g2, 0, none⟩ = some (.string ⟨s.toArray⟩)) (hc1 : w.cell? ⟨g2, 1, none⟩ = some (.int .i64 (p : Int))) :
    Calls Tryd.prog 6 #[.pointer (some ⟨g, 0, none⟩)] w fun e w' => e = .returned (.int .i64 ((p + s.length : Nat) : Int)) ∧ Qt w w' := by
  have HC := Lib.hid (idEnd_any g2 p s w hp hs hc0 hc1)
  clear hc0 hc1
  go_enter Tryd.func6, Tryd.ntmps6
  go_wp2_with fail
  refine HC.out.mono ?_
  rintro e w2 ⟨rfl, hq⟩
  have HQ := Lib.hid hq
  clear hq
  go_wp2_with fail
  go_ret
  exact ⟨rfl, HQ.out⟩
set_option maxHeartbeats 400000 in
theorem endBare_any (g : Nat) (p tok : Nat) (kw : ByteArray) (w : World) (hp : p ≤ 2199023255552) (hk : kw.size ≤ 100) (ht : tok < 75) (hk1 : kw.toList.isEmpty = false) (hc0 : w.cell? ⟨g, 0, none⟩ = some (.int .i64 (tok : Int))) (hc1 : w.cell? ⟨g, 1, none⟩ = some (.int .i64 (p : Int))) (hc : w.cell? ⟨g, 2, none⟩ = some (.pointer none))
    (htk : w.cell? ⟨0, tok, none⟩ = some (.string kw)) :
    Calls Tryd.prog 6 #[.pointer (some ⟨g, 0, none⟩)] w fun e w' => e = .returned (.int .i64 ((p + kw.size : Nat) : Int)) ∧ Qt w w' := by
  have ew : IntKind.i64.wrap ((p : Int) + (kw.size : Int)) = (p : Int) + (kw.size : Int) := IntWalk.i64_in _ (by omega)
  have HS := fun n => (str_at (tok : Int) (w.drewN n) kw (by omega) (by omega) (by simpa using htk) hk1).mono (fun _ _ ⟨he, hw⟩ => (⟨he, hw.symm⟩ : _ ∧ _))
  clear htk
  go_enter Tryd.func6, Tryd.ntmps6
  go_wp2_with fail
  go_quiet ((go_at_call 9; exact Calls.quiet_of_same (HS _)))
  clear ew
  go_wp2_with fail
  go_ret
  exact ⟨by go_num, (Qt.refl w).drewN _⟩
set_option maxHeartbeats 400000 in
theorem same_any (l : List UInt8) (b o cap : Nat) (w : World) (hl : l.length ≤ 1048576) (hc : ∀ i (h : i < l.length), w.cell? ⟨b, o + i, none⟩ = some (.int .u8 (l[i].toNat : Int))) :
    Calls Tryd.prog 7 #[.string ⟨l.toArray⟩, .slice (some ⟨b, o, none⟩) l.length cap] w fun e w' => e = .returned (.bool true) ∧ Qt w w' := by
  have hss : (ByteArray.mk l.toArray).size = l.length := by simp [ByteArray.size]
  have HC := Lib.hid hc
  clear hc
  go_enter Tryd.func7, Tryd.ntmps7
  go_wp2_with fail
  go_loopw [5] (fun i wr => ∃ k : Nat, k ≤ l.length ∧ i = .int .i64 k ∧ Qt w wr) (fun i _ => l.length - (intOf i).toNat)
  case atStart => exact ⟨0, Nat.zero_le _, rfl, Qt.refl _⟩
  case round =>
    obtain ⟨k, hk, rfl, hq⟩ := hrel
    by_cases hlt : k < l.length
    · have c1 := (hq.cell _).trans (HC.out k hlt)
      have hx : ∀ W : World, (Instr.index 9 (.string ⟨l.toArray⟩) (.int .i64 (k : Int))).run Tryd.prog W = .ok (.int .u8 (l[k].toNat : Int)) W := by
        intro W
        rw [run_index_string W _ _ _ _ Tryd.underlying9, dif_pos (by omega)]
        rfl
      have tl : decide ((k : Int) < (l.length : Int)) = true := by simp; omega
      have HQ := Lib.hid hq
      clear hq
      go_wp2_with fail
      go_quiet (fail)
      go_wp2_with fail
      go_roundw
      case rel => exact ⟨k + 1, by omega, by go_num, HQ.out.drewN _⟩
      case measure => simp [intOf]; omega
    · obtain rfl : k = l.length := by omega
      have HQ := Lib.hid hq
      clear hq
      go_wp2_with fail
      go_ret
      exact ⟨rfl, HQ.out⟩

set_option maxHeartbeats 8000000 in
theorem span_false (p m : Nat) (s : List UInt8) (w : World) (hp1 : 1 ≤ p) (hp2 : p ≤ 1099511627776) (hm1 : 1 ≤ m) (hm2 : m ≤ 65536) (hs : s.length ≤ 524288) (htok : w.cell? ⟨0, 60, none⟩ = some (.string ⟨#[98, 114, 101, 97, 107]⟩)) (hG : 0 < w.heap.size) :
    Calls Tryd.prog 3 #[.int .i64 (p : Int), .bool false, .int .i64 (m : Int), .string ⟨s.toArray⟩] w fun e w' => e = .returned (.bool true) ∧ Below w.heap.size w w' := by
  have HB := fun W => bytes_10 (p : Int) false (m : Int) s W (by omega)
  rw [decide_eq_true (by omega)] at HB
  obtain ⟨i0, hii, hy0, hy1, hy2⟩ := info_parts u8_info
  have ht := fun W => mk0 (5 + m + s.length) (by omega) W
  simp only [Int.natCast_add, Int.cast_ofNat_Int] at ht
  have hss : (ByteArray.mk s.toArray).size = s.length := by simp [ByteArray.size]
  have t1 : decide ((s.length : Int) > 524288) = false := by simp; omega
  have O1 := Lib.hid (own0 (B := w.heap.size) (Blk.new w 5 (madeCells #[.int .u8 0] (5 + m + s.length))) (Nat.le_refl _) (by omega))
  have B1 := Lib.hid ((Below.refl w.heap.size w).alloc (Nat.le_refl _) (.cells (madeCells #[.int .u8 0] (5 + m + s.length)) 5))
  have Z1 : Hid (w.heap.size ≤ (w.alloc (.cells (madeCells #[.int .u8 0] (5 + m + s.length)) 5)).heap.size) := Lib.hid (by simp)
  have HT := Lib.hid htok
  clear htok
  go_enter Tryd.func3, Tryd.ntmps3
  go_wp2_with first | (go_at_call 4; refine (HB _).mono ?_; rintro e w2 ⟨rfl, rfl⟩) | (at_builtin; (
     refine wpList_append_own_src rfl (.tmp 52) (.tmp 53) 24 9 rfl w.heap.size 5 i0 (.int .u8 0) 1 1 Tryd.underlying24 hii hy0 hy1 hy2 rfl (by decide) (.slice (some ⟨w.heap.size, 0, none⟩) 0 (5 + m + s.length)) 0 (u8c []) rfl O1.out (.string ⟨#[98, 114, 101, 97, 107]⟩) 5 (u8c [98, 114, 101, 97, 107]) rfl (src_str (w := _) Tryd.underlying9 [98, 114, 101, 97, 107]) (by simp only [maxLen]; omega) (by omega) Z1.out ?_
     intro v2 w2 hown2 hgrow2 _
     obtain ⟨ao2, cp2, rfl, hcp2, _⟩ := own_val0 hown2
     have O2 : Hid (w2.ownsRow w.heap.size 5 1 (.slice ao2 (0 + 5) cp2) 5 (u8c (kwp [98, 114, 101, 97, 107] 0))) := Lib.hid hown2
     have B2 := Lib.hid (B1.out.trans (own_grow O1.out Z1.out hgrow2))
     clear hown2 hgrow2 O1 B1 Z1 ht
     refine Hid.out ?_))
  refine Lib.hid ?_
  go_wp2_with fail
  go_loopw [11, 12] (fun v i wr => ∃ (k : Nat) (ao : Option Addr) (cp : Nat), k ≤ m ∧ i = .int .i64 k ∧ v = .slice ao (5 + k) cp ∧ wr.ownsRow w.heap.size 5 1 v (5 + k) (u8c (kwp [98, 114, 101, 97, 107] k)) ∧ Below w.heap.size w wr) (fun _ i _ => m - (intOf i).toNat)
  case atStart => exact ⟨0, ao2, cp2, Nat.zero_le _, rfl, rfl, O2.out, B2.out⟩
  case round =>
    obtain ⟨k, ao, cp, hk, rfl, rfl, hown, hbw⟩ := hrel
    have HZ := Lib.hid hbw.size
    have BW := Lib.hid hbw
    clear hbw O2 B2 HB
    by_cases hlt : k < m
    · have O3 := Lib.hid (hown.alloc (.cells #[.int .u8 32] 5))
      have Z3 : Hid (w.heap.size ≤ (wr.alloc (.cells #[.int .u8 32] 5)).heap.size) := Lib.hid (by have := HZ.out; simp; omega)
      have tl : decide ((k : Int) < (m : Int)) = true := by simp; omega
      clear hown
      go_wp2_with (at_builtin; (
     refine wpList_append_own_src rfl (.tmp 60) (.tmp 61) 24 24 rfl w.heap.size 5 i0 (.int .u8 0) 1 1 Tryd.underlying24 hii hy0 hy1 hy2 rfl (by decide) (.slice ao (5 + k) cp) (5 + k) (u8c (kwp [98, 114, 101, 97, 107] k)) rfl O3.out (.slice (some ⟨wr.heap.size, 0, none⟩) 1 1) 1 (u8c [UInt8.ofNat 32]) rfl (src_one (by decide) (Blk.new wr 5 #[.int .u8 32])) (by simp only [maxLen]; omega) (by omega) Z3.out ?_
     intro v4 w4 hown4 hgrow4 _
     obtain ⟨ao4, cp4, rfl, hcp4, _⟩ := own_val0 hown4
     have O4 : Hid (w4.ownsRow w.heap.size 5 1 (.slice ao4 (5 + k + 1) cp4) (5 + (k + 1)) (u8c (kwp [98, 114, 101, 97, 107] (k + 1)))) := Lib.hid (by rw [kwp_succ, u8c_app]; exact hown4)
     have B4 := Lib.hid ((BW.out.alloc HZ.out _).trans (own_grow O3.out Z3.out hgrow4))
     clear hown4 hgrow4 O3 BW Z3
     refine Hid.out ?_))
      refine Lib.hid ?_
      go_wp2_with fail
      go_roundw
      case rel => exact ⟨k + 1, ao4, cp4, by omega, by go_num, rfl, O4.out, B4.out⟩
      case measure => simp [intOf]; omega
    · obtain rfl : k = m := by omega
      have tl : decide ((k : Int) < (k : Int)) = false := by simp
      have OW := Lib.hid hown
      clear hown
      go_wp2_with (at_builtin; (
     refine wpList_append_own_src rfl (.tmp 63) (.tmp 64) 24 9 rfl w.heap.size 5 i0 (.int .u8 0) 1 1 Tryd.underlying24 hii hy0 hy1 hy2 rfl (by decide) (.slice ao (5 + k) cp) (5 + k) (u8c (kwp [98, 114, 101, 97, 107] k)) rfl OW.out (.string ⟨s.toArray⟩) s.length (u8c s) rfl (src_str (w := _) Tryd.underlying9 s) (by simp only [maxLen]; omega) (by omega) HZ.out ?_
     intro v5 w5 hown5 hgrow5 _
     obtain ⟨g5, cp5, rfl, hg5⟩ := own_shape8 hown5 (by omega)
     have HCP : Hid (5 ≤ cp5) := Lib.hid (by have := own_cap hown5; omega)
     have O5 : Hid (w5.ownsRow w.heap.size 5 1 (.slice (some ⟨g5, 0, none⟩) (5 + k + s.length) cp5) (5 + k + s.length) (u8c (kwp [98, 114, 101, 97, 107] k ++ s))) := Lib.hid (by rw [u8c_app]; exact hown5)
     have B5 := Lib.hid (BW.out.trans (own_grow OW.out HZ.out hgrow5))
     clear hown5 hgrow5 OW BW HZ
     refine Hid.out ?_))
      refine Lib.hid ?_
      go_wp2_with fail
      have hb1 := ((Blk.new w5 29 #[.int .i64 60, .int .i64 (p : Int), .pointer none]).alloc (.cells #[.string ⟨s.toArray⟩, .int .i64 ((p : Int) + 5 + (k : Int))] 31)).alloc (.cells #[.int .i64 60, .int .i64 (p : Int), .pointer (some ⟨w5.heap.size + 1, 0, none⟩)] 29)
      have hb2 := (Blk.new (w5.alloc (.cells #[.int .i64 60, .int .i64 (p : Int), .pointer none] 29)) 31 #[.string ⟨s.toArray⟩, .int .i64 ((p : Int) + 5 + (k : Int))]).alloc (.cells #[.int .i64 60, .int .i64 (p : Int), .pointer (some ⟨w5.heap.size + 1, 0, none⟩)] 29)
      have hb3 := Blk.new ((w5.alloc (.cells #[.int .i64 60, .int .i64 (p : Int), .pointer none] 29)).alloc (.cells #[.string ⟨s.toArray⟩, .int .i64 ((p : Int) + 5 + (k : Int))] 31)) 29 #[.int .i64 60, .int .i64 (p : Int), .pointer (some ⟨w5.heap.size + 1, 0, none⟩)]
      have ho6 := ((O5.out.alloc (.cells #[.int .i64 60, .int .i64 (p : Int), .pointer none] 29)).alloc (.cells #[.string ⟨s.toArray⟩, .int .i64 ((p : Int) + 5 + (k : Int))] 31)).alloc (.cells #[.int .i64 60, .int .i64 (p : Int), .pointer (some ⟨w5.heap.size + 1, 0, none⟩)] 29)
      have hB6 := ((B5.out.alloc B5.out.size (.cells #[.int .i64 60, .int .i64 (p : Int), .pointer none] 29)).alloc (by have := B5.out.size; simp; omega) (.cells #[.string ⟨s.toArray⟩, .int .i64 ((p : Int) + 5 + (k : Int))] 31)).alloc (by have := B5.out.size; simp; omega) (.cells #[.int .i64 60, .int .i64 (p : Int), .pointer (some ⟨w5.heap.size + 1, 0, none⟩)] 29)
      have e1 : (w5.alloc (.cells #[.int .i64 60, .int .i64 (p : Int), .pointer none] 29)).heap.size = w5.heap.size + 1 := by simp
      have e2 : ((w5.alloc (.cells #[.int .i64 60, .int .i64 (p : Int), .pointer none] 29)).alloc (.cells #[.string ⟨s.toArray⟩, .int .i64 ((p : Int) + 5 + (k : Int))] 31)).heap.size = w5.heap.size + 1 + 1 := by simp
      rw [e1] at hb2
      rw [e2] at hb3
      clear e1 e2
      generalize (((w5.alloc (.cells #[.int .i64 60, .int .i64 (p : Int), .pointer none] 29)).alloc (.cells #[.string ⟨s.toArray⟩, .int .i64 ((p : Int) + 5 + (k : Int))] 31)).alloc (.cells #[.int .i64 60, .int .i64 (p : Int), .pointer (some ⟨w5.heap.size + 1, 0, none⟩)] 29)) = w6 at hb1 hb2 hb3 ho6 hB6 ⊢
      generalize w5.heap.size = N5 at hb1 hb2 hb3 ⊢
      have hk6 : w6.cell? ⟨0, 60, none⟩ = some (.string ⟨#[98, 114, 101, 97, 107]⟩) := (hB6.cell (p := ⟨0, 60, none⟩) hG).trans HT.out
      have PB1 := Lib.hid hb1
      have PB2 := Lib.hid hb2
      have PB3 := Lib.hid hb3
      have EB : ∀ W, Qt w6 W → Calls Tryd.prog 6 #[.pointer (some ⟨N5, 0, none⟩)] W fun e w' => e = .returned (.int .i64 ((p : Int) + 5)) ∧ Qt W w' := by
        intro W hq
        have := endBare_any N5 p 60 ⟨#[98, 114, 101, 97, 107]⟩ W (by omega) (by decide) (by decide) (by kernel_rfl) (by rw [hq.cell, PB1.out.cell]; rfl) (by rw [hq.cell, PB1.out.cell]; rfl) (by rw [hq.cell, PB1.out.cell]; rfl) (by rw [hq.cell, hk6])
        exact this
      have EL : ∀ W, Qt w6 W → Calls Tryd.prog 6 #[.pointer (some ⟨N5 + 1 + 1, 0, none⟩)] W fun e w' => e = .returned (.int .i64 ((p : Int) + 5 + (k : Int) + (s.length : Int))) ∧ Qt W w' := by
        intro W hq
        have := endLab_any (N5 + 1 + 1) (N5 + 1) (p + 5 + k) s W (by omega) (by omega) (by rw [hq.cell, PB3.out.cell]; rfl) (by rw [hq.cell, PB2.out.cell]; rfl) (by rw [hq.cell, PB2.out.cell]; simp)
        simpa using this
      have HEB := Lib.hid EB
      have HEL := Lib.hid EL
      have O6 := Lib.hid ho6
      have B6 := Lib.hid hB6
      clear EB EL ho6 hB6 hk6 hb1 hb2 hb3 O5 B5 HT hss
      refine (pos_any N5 (p : Int) w6 (by rw [PB1.out.cell]; rfl)).mono ?_
      rintro e w' ⟨rfl, rfl⟩
      go_wp2_with fail
      refine (pos_any (N5 + 1 + 1) (p : Int) w6 (by rw [PB3.out.cell]; rfl)).mono ?_
      rintro e w' ⟨rfl, rfl⟩
      go_wp2_with fail
      refine (pos_any N5 (p : Int) w6 (by rw [PB1.out.cell]; rfl)).mono ?_
      rintro e w' ⟨rfl, rfl⟩
      go_wp2_with fail
      refine (HEB.out w6 (Qt.refl _)).mono ?_
      rintro e w7 ⟨rfl, hq7⟩
      have Q7 := Lib.hid hq7
      clear hq7
      have hsl : ∀ W, (Instr.slice 24 (.slice (some ⟨g5, 0, none⟩) (5 + k + s.length) cp5) none (some (.int .i64 ((p : Int) + 5 - (p : Int)))) none).run Tryd.prog W = .ok (.slice (some ⟨g5, 0, none⟩) 5 cp5) W := by
        intro W
        rw [show (p : Int) + 5 - (p : Int) = ((5 : Nat) : Int) by omega]
        exact run_slo W g5 0 _ cp5 5 HCP.out
      go_wp2_with fail
      have hcw : ∀ i (h : i < ([98, 114, 101, 97, 107] : List UInt8).length), w7.cell? ⟨g5, 0 + i, none⟩ = some (.int .u8 (([98, 114, 101, 97, 107] : List UInt8)[i].toNat : Int)) := by
        intro i hi
        have hi5 : i < 5 := hi
        have h1 := own_at8 (Q7.out.own O6.out) i (by simp [kwp]; omega)
        rw [h1, List.getElem_append_left (by simp [kwp]; omega)]
        unfold kwp
        rw [List.getElem_append_left hi]
      have HSM := Lib.hid (same_any ([98, 114, 101, 97, 107] : List UInt8) g5 0 cp5 w7 (by decide) hcw)
      clear hcw hsl
      refine HSM.out.mono ?_
      rintro e w8 ⟨rfl, hq8⟩
      have Q8 := Lib.hid (Q7.out.trans hq8)
      clear hq8 HSM Q7
      go_wp2_with fail
      refine (HEL.out w8 Q8.out).mono ?_
      rintro e w9 ⟨rfl, hq9⟩
      have Q9 := Lib.hid (Q8.out.trans hq9)
      clear hq9 Q8
      go_wp2_with fail
      refine (HEB.out w9 Q9.out).mono ?_
      rintro e w10 ⟨rfl, hq10⟩
      have Q10 := Lib.hid (Q9.out.trans hq10)
      clear hq10 Q9
      go_wp2_with fail
      refine (HEL.out w10 Q10.out).mono ?_
      rintro e w11 ⟨rfl, hq11⟩
      have Q11 := Lib.hid (Q10.out.trans hq11)
      clear hq11 Q10
      have tf : decide ((p : Int) + 5 < (p : Int) + 5 + (k : Int) + (s.length : Int)) = true := by simp; omega
      go_wp2_with fail
      go_ret
      exact ⟨rfl, B6.out.trans (Q11.out.below _)⟩


set_option maxHeartbeats 8000000 in
theorem span_true (p m : Nat) (s : List UInt8) (w : World) (hp1 : 1 ≤ p) (hp2 : p ≤ 1099511627776) (hm1 : 1 ≤ m) (hm2 : m ≤ 65536) (hs : s.length ≤ 524288) (htok : w.cell? ⟨0, 61, none⟩ = some (.string ⟨#[99, 111, 110, 116, 105, 110, 117, 101]⟩)) (hG : 0 < w.heap.size) :
    Calls Tryd.prog 3 #[.int .i64 (p : Int), .bool true, .int .i64 (m : Int), .string ⟨s.toArray⟩] w fun e w' => e = .returned (.bool true) ∧ Below w.heap.size w w' := by
  have HB := fun W => bytes_10 (p : Int) true (m : Int) s W (by omega)
  rw [decide_eq_true (by omega)] at HB
  obtain ⟨i0, hii, hy0, hy1, hy2⟩ := info_parts u8_info
  have ht := fun W => mk0 (8 + m + s.length) (by omega) W
  simp only [Int.natCast_add, Int.cast_ofNat_Int] at ht
  have hss : (ByteArray.mk s.toArray).size = s.length := by simp [ByteArray.size]
  have t1 : decide ((s.length : Int) > 524288) = false := by simp; omega
  have O1 := Lib.hid (own0 (B := w.heap.size) (Blk.new w 5 (madeCells #[.int .u8 0] (8 + m + s.length))) (Nat.le_refl _) (by omega))
  have B1 := Lib.hid ((Below.refl w.heap.size w).alloc (Nat.le_refl _) (.cells (madeCells #[.int .u8 0] (8 + m + s.length)) 5))
  have Z1 : Hid (w.heap.size ≤ (w.alloc (.cells (madeCells #[.int .u8 0] (8 + m + s.length)) 5)).heap.size) := Lib.hid (by simp)
  have HT := Lib.hid htok
  clear htok
  go_enter Tryd.func3, Tryd.ntmps3
  go_wp2_with first | (go_at_call 4; refine (HB _).mono ?_; rintro e w2 ⟨rfl, rfl⟩) | (at_builtin; (
     refine wpList_append_own_src rfl (.tmp 52) (.tmp 53) 24 9 rfl w.heap.size 5 i0 (.int .u8 0) 1 1 Tryd.underlying24 hii hy0 hy1 hy2 rfl (by decide) (.slice (some ⟨w.heap.size, 0, none⟩) 0 (8 + m + s.length)) 0 (u8c []) rfl O1.out (.string ⟨#[99, 111, 110, 116, 105, 110, 117, 101]⟩) 8 (u8c [99, 111, 110, 116, 105, 110, 117, 101]) rfl (src_str (w := _) Tryd.underlying9 [99, 111, 110, 116, 105, 110, 117, 101]) (by simp only [maxLen]; omega) (by omega) Z1.out ?_
     intro v2 w2 hown2 hgrow2 _
     obtain ⟨ao2, cp2, rfl, hcp2, _⟩ := own_val0 hown2
     have O2 : Hid (w2.ownsRow w.heap.size 5 1 (.slice ao2 (0 + 8) cp2) 8 (u8c (kwp [99, 111, 110, 116, 105, 110, 117, 101] 0))) := Lib.hid hown2
     have B2 := Lib.hid (B1.out.trans (own_grow O1.out Z1.out hgrow2))
     clear hown2 hgrow2 O1 B1 Z1 ht
     refine Hid.out ?_))
  refine Lib.hid ?_
  go_wp2_with fail
  go_loopw [11, 12] (fun v i wr => ∃ (k : Nat) (ao : Option Addr) (cp : Nat), k ≤ m ∧ i = .int .i64 k ∧ v = .slice ao (8 + k) cp ∧ wr.ownsRow w.heap.size 5 1 v (8 + k) (u8c (kwp [99, 111, 110, 116, 105, 110, 117, 101] k)) ∧ Below w.heap.size w wr) (fun _ i _ => m - (intOf i).toNat)
  case atStart => exact ⟨0, ao2, cp2, Nat.zero_le _, rfl, rfl, O2.out, B2.out⟩
  case round =>
    obtain ⟨k, ao, cp, hk, rfl, rfl, hown, hbw⟩ := hrel
    have HZ := Lib.hid hbw.size
    have BW := Lib.hid hbw
    clear hbw O2 B2 HB
    by_cases hlt : k < m
    · have O3 := Lib.hid (hown.alloc (.cells #[.int .u8 32] 5))
      have Z3 : Hid (w.heap.size ≤ (wr.alloc (.cells #[.int .u8 32] 5)).heap.size) := Lib.hid (by have := HZ.out; simp; omega)
      have tl : decide ((k : Int) < (m : Int)) = true := by simp; omega
      clear hown
      go_wp2_with (at_builtin; (
     refine wpList_append_own_src rfl (.tmp 60) (.tmp 61) 24 24 rfl w.heap.size 5 i0 (.int .u8 0) 1 1 Tryd.underlying24 hii hy0 hy1 hy2 rfl (by decide) (.slice ao (8 + k) cp) (8 + k) (u8c (kwp [99, 111, 110, 116, 105, 110, 117, 101] k)) rfl O3.out (.slice (some ⟨wr.heap.size, 0, none⟩) 1 1) 1 (u8c [UInt8.ofNat 32]) rfl (src_one (by decide) (Blk.new wr 5 #[.int .u8 32])) (by simp only [maxLen]; omega) (by omega) Z3.out ?_
     intro v4 w4 hown4 hgrow4 _
     obtain ⟨ao4, cp4, rfl, hcp4, _⟩ := own_val0 hown4
     have O4 : Hid (w4.ownsRow w.heap.size 5 1 (.slice ao4 (8 + k + 1) cp4) (8 + (k + 1)) (u8c (kwp [99, 111, 110, 116, 105, 110, 117, 101] (k + 1)))) := Lib.hid (by rw [kwp_succ, u8c_app]; exact hown4)
     have B4 := Lib.hid ((BW.out.alloc HZ.out _).trans (own_grow O3.out Z3.out hgrow4))
     clear hown4 hgrow4 O3 BW Z3
     refine Hid.out ?_))
      refine Lib.hid ?_
      go_wp2_with fail
      go_roundw
      case rel => exact ⟨k + 1, ao4, cp4, by omega, by go_num, rfl, O4.out, B4.out⟩
      case measure => simp [intOf]; omega
    · obtain rfl : k = m := by omega
      have tl : decide ((k : Int) < (k : Int)) = false := by simp
      have OW := Lib.hid hown
      clear hown
      go_wp2_with (at_builtin; (
     refine wpList_append_own_src rfl (.tmp 63) (.tmp 64) 24 9 rfl w.heap.size 5 i0 (.int .u8 0) 1 1 Tryd.underlying24 hii hy0 hy1 hy2 rfl (by decide) (.slice ao (8 + k) cp) (8 + k) (u8c (kwp [99, 111, 110, 116, 105, 110, 117, 101] k)) rfl OW.out (.string ⟨s.toArray⟩) s.length (u8c s) rfl (src_str (w := _) Tryd.underlying9 s) (by simp only [maxLen]; omega) (by omega) HZ.out ?_
     intro v5 w5 hown5 hgrow5 _
     obtain ⟨g5, cp5, rfl, hg5⟩ := own_shape8 hown5 (by omega)
     have HCP : Hid (8 ≤ cp5) := Lib.hid (by have := own_cap hown5; omega)
     have O5 : Hid (w5.ownsRow w.heap.size 5 1 (.slice (some ⟨g5, 0, none⟩) (8 + k + s.length) cp5) (8 + k + s.length) (u8c (kwp [99, 111, 110, 116, 105, 110, 117, 101] k ++ s))) := Lib.hid (by rw [u8c_app]; exact hown5)
     have B5 := Lib.hid (BW.out.trans (own_grow OW.out HZ.out hgrow5))
     clear hown5 hgrow5 OW BW HZ
     refine Hid.out ?_))
      refine Lib.hid ?_
      go_wp2_with fail
      have hb1 := ((Blk.new w5 29 #[.int .i64 61, .int .i64 (p : Int), .pointer none]).alloc (.cells #[.string ⟨s.toArray⟩, .int .i64 ((p : Int) + 8 + (k : Int))] 31)).alloc (.cells #[.int .i64 61, .int .i64 (p : Int), .pointer (some ⟨w5.heap.size + 1, 0, none⟩)] 29)
      have hb2 := (Blk.new (w5.alloc (.cells #[.int .i64 61, .int .i64 (p : Int), .pointer none] 29)) 31 #[.string ⟨s.toArray⟩, .int .i64 ((p : Int) + 8 + (k : Int))]).alloc (.cells #[.int .i64 61, .int .i64 (p : Int), .pointer (some ⟨w5.heap.size + 1, 0, none⟩)] 29)
      have hb3 := Blk.new ((w5.alloc (.cells #[.int .i64 61, .int .i64 (p : Int), .pointer none] 29)).alloc (.cells #[.string ⟨s.toArray⟩, .int .i64 ((p : Int) + 8 + (k : Int))] 31)) 29 #[.int .i64 61, .int .i64 (p : Int), .pointer (some ⟨w5.heap.size + 1, 0, none⟩)]
      have ho6 := ((O5.out.alloc (.cells #[.int .i64 61, .int .i64 (p : Int), .pointer none] 29)).alloc (.cells #[.string ⟨s.toArray⟩, .int .i64 ((p : Int) + 8 + (k : Int))] 31)).alloc (.cells #[.int .i64 61, .int .i64 (p : Int), .pointer (some ⟨w5.heap.size + 1, 0, none⟩)] 29)
      have hB6 := ((B5.out.alloc B5.out.size (.cells #[.int .i64 61, .int .i64 (p : Int), .pointer none] 29)).alloc (by have := B5.out.size; simp; omega) (.cells #[.string ⟨s.toArray⟩, .int .i64 ((p : Int) + 8 + (k : Int))] 31)).alloc (by have := B5.out.size; simp; omega) (.cells #[.int .i64 61, .int .i64 (p : Int), .pointer (some ⟨w5.heap.size + 1, 0, none⟩)] 29)
      have e1 : (w5.alloc (.cells #[.int .i64 61, .int .i64 (p : Int), .pointer none] 29)).heap.size = w5.heap.size + 1 := by simp
      have e2 : ((w5.alloc (.cells #[.int .i64 61, .int .i64 (p : Int), .pointer none] 29)).alloc (.cells #[.string ⟨s.toArray⟩, .int .i64 ((p : Int) + 8 + (k : Int))] 31)).heap.size = w5.heap.size + 1 + 1 := by simp
      rw [e1] at hb2
      rw [e2] at hb3
      clear e1 e2
      generalize (((w5.alloc (.cells #[.int .i64 61, .int .i64 (p : Int), .pointer none] 29)).alloc (.cells #[.string ⟨s.toArray⟩, .int .i64 ((p : Int) + 8 + (k : Int))] 31)).alloc (.cells #[.int .i64 61, .int .i64 (p : Int), .pointer (some ⟨w5.heap.size + 1, 0, none⟩)] 29)) = w6 at hb1 hb2 hb3 ho6 hB6 ⊢
      generalize w5.heap.size = N5 at hb1 hb2 hb3 ⊢
      have hk6 : w6.cell? ⟨0, 61, none⟩ = some (.string ⟨#[99, 111, 110, 116, 105, 110, 117, 101]⟩) := (hB6.cell (p := ⟨0, 61, none⟩) hG).trans HT.out
      have PB1 := Lib.hid hb1
      have PB2 := Lib.hid hb2
      have PB3 := Lib.hid hb3
      have EB : ∀ W, Qt w6 W → Calls Tryd.prog 6 #[.pointer (some ⟨N5, 0, none⟩)] W fun e w' => e = .returned (.int .i64 ((p : Int) + 8)) ∧ Qt W w' := by
        intro W hq
        have := endBare_any N5 p 61 ⟨#[99, 111, 110, 116, 105, 110, 117, 101]⟩ W (by omega) (by decide) (by decide) (by kernel_rfl) (by rw [hq.cell, PB1.out.cell]; rfl) (by rw [hq.cell, PB1.out.cell]; rfl) (by rw [hq.cell, PB1.out.cell]; rfl) (by rw [hq.cell, hk6])
        exact this
      have EL : ∀ W, Qt w6 W → Calls Tryd.prog 6 #[.pointer (some ⟨N5 + 1 + 1, 0, none⟩)] W fun e w' => e = .returned (.int .i64 ((p : Int) + 8 + (k : Int) + (s.length : Int))) ∧ Qt W w' := by
        intro W hq
        have := endLab_any (N5 + 1 + 1) (N5 + 1) (p + 8 + k) s W (by omega) (by omega) (by rw [hq.cell, PB3.out.cell]; rfl) (by rw [hq.cell, PB2.out.cell]; rfl) (by rw [hq.cell, PB2.out.cell]; simp)
        simpa using this
      have HEB := Lib.hid EB
      have HEL := Lib.hid EL
      have O6 := Lib.hid ho6
      have B6 := Lib.hid hB6
      clear EB EL ho6 hB6 hk6 hb1 hb2 hb3 O5 B5 HT hss
      refine (pos_any N5 (p : Int) w6 (by rw [PB1.out.cell]; rfl)).mono ?_
      rintro e w' ⟨rfl, rfl⟩
      go_wp2_with fail
      refine (pos_any (N5 + 1 + 1) (p : Int) w6 (by rw [PB3.out.cell]; rfl)).mono ?_
      rintro e w' ⟨rfl, rfl⟩
      go_wp2_with fail
      refine (pos_any N5 (p : Int) w6 (by rw [PB1.out.cell]; rfl)).mono ?_
      rintro e w' ⟨rfl, rfl⟩
      go_wp2_with fail
      refine (HEB.out w6 (Qt.refl _)).mono ?_
      rintro e w7 ⟨rfl, hq7⟩
      have Q7 := Lib.hid hq7
      clear hq7
      have hsl : ∀ W, (Instr.slice 24 (.slice (some ⟨g5, 0, none⟩) (8 + k + s.length) cp5) none (some (.int .i64 ((p : Int) + 8 - (p : Int)))) none).run Tryd.prog W = .ok (.slice (some ⟨g5, 0, none⟩) 8 cp5) W := by
        intro W
        rw [show (p : Int) + 8 - (p : Int) = ((8 : Nat) : Int) by omega]
        exact run_slo W g5 0 _ cp5 8 HCP.out
      go_wp2_with fail
      have hcw : ∀ i (h : i < ([99, 111, 110, 116, 105, 110, 117, 101] : List UInt8).length), w7.cell? ⟨g5, 0 + i, none⟩ = some (.int .u8 (([99, 111, 110, 116, 105, 110, 117, 101] : List UInt8)[i].toNat : Int)) := by
        intro i hi
        have hi5 : i < 8 := hi
        have h1 := own_at8 (Q7.out.own O6.out) i (by simp [kwp]; omega)
        rw [h1, List.getElem_append_left (by simp [kwp]; omega)]
        unfold kwp
        rw [List.getElem_append_left hi]
      have HSM := Lib.hid (same_any ([99, 111, 110, 116, 105, 110, 117, 101] : List UInt8) g5 0 cp5 w7 (by decide) hcw)
      clear hcw hsl
      refine HSM.out.mono ?_
      rintro e w8 ⟨rfl, hq8⟩
      have Q8 := Lib.hid (Q7.out.trans hq8)
      clear hq8 HSM Q7
      go_wp2_with fail
      refine (HEL.out w8 Q8.out).mono ?_
      rintro e w9 ⟨rfl, hq9⟩
      have Q9 := Lib.hid (Q8.out.trans hq9)
      clear hq9 Q8
      go_wp2_with fail
      refine (HEB.out w9 Q9.out).mono ?_
      rintro e w10 ⟨rfl, hq10⟩
      have Q10 := Lib.hid (Q9.out.trans hq10)
      clear hq10 Q9
      go_wp2_with fail
      refine (HEL.out w10 Q10.out).mono ?_
      rintro e w11 ⟨rfl, hq11⟩
      have Q11 := Lib.hid (Q10.out.trans hq11)
      clear hq11 Q10
      have tf : decide ((p : Int) + 8 < (p : Int) + 8 + (k : Int) + (s.length : Int)) = true := by simp; omega
      go_wp2_with fail
      go_ret
      exact ⟨rfl, B6.out.trans (Q11.out.below _)⟩

set_option maxHeartbeats 2000000 in
theorem law_10 (p : Int) (c : Bool) (gp : Int) (s : List UInt8) (w : World) (hp0 : -9223372036854775808 ≤ p) (hp9 : p ≤ 9223372036854775807) (hg0 : -9223372036854775808 ≤ gp) (hg9 : gp ≤ 9223372036854775807) (hs : s.length ≤ 9223372036854775807)
    (h60 : w.cell? ⟨0, 60, none⟩ = some (.string ⟨#[98, 114, 101, 97, 107]⟩)) (h61 : w.cell? ⟨0, 61, none⟩ = some (.string ⟨#[99, 111, 110, 116, 105, 110, 117, 101]⟩)) (hG : 0 < w.heap.size) :
    Calls Tryd.prog 3 #[.int .i64 p, .bool c, .int .i64 gp, .string ⟨s.toArray⟩] w fun e w' => e = .returned (.bool true) ∧ Below w.heap.size w w' := by
  have HB := fun W => bytes_10 p c gp s W hs
  have hss : (ByteArray.mk s.toArray).size = s.length := by simp [ByteArray.size]
  by_cases hbig : s.length ≤ 1048576
  rotate_left
  · rw [decide_eq_false hbig] at HB
    clear h60 h61 hbig
    go_enter Tryd.func3, Tryd.ntmps3
    go_wp2_with (go_at_call 4; refine (HB _).mono ?_; rintro e w2 ⟨rfl, rfl⟩)
    go_ret
    exact ⟨rfl, Below.refl _ _⟩
  rw [decide_eq_true hbig] at HB
  by_cases h1 : s.length ≤ 524288
  rotate_left
  · have t1 : decide ((s.length : Int) > 524288) = true := by simp; omega
    clear h60 h61 hbig
    go_enter Tryd.func3, Tryd.ntmps3
    go_wp2_with (go_at_call 4; refine (HB _).mono ?_; rintro e w2 ⟨rfl, rfl⟩)
    go_ret
    exact ⟨rfl, Below.refl _ _⟩
  have t1 : decide ((s.length : Int) > 524288) = false := by simp; omega
  by_cases h2 : 1 ≤ p
  rotate_left
  · have t2 : decide (p < 1) = true := by simp; omega
    clear h60 h61 hbig
    go_enter Tryd.func3, Tryd.ntmps3
    go_wp2_with (go_at_call 4; refine (HB _).mono ?_; rintro e w2 ⟨rfl, rfl⟩)
    go_ret
    exact ⟨rfl, Below.refl _ _⟩
  have t2 : decide (p < 1) = false := by simp; omega
  by_cases h3 : p ≤ 1099511627776
  rotate_left
  · have t3 : decide (p > 1099511627776) = true := by simp; omega
    clear h60 h61 hbig
    go_enter Tryd.func3, Tryd.ntmps3
    go_wp2_with (go_at_call 4; refine (HB _).mono ?_; rintro e w2 ⟨rfl, rfl⟩)
    go_ret
    exact ⟨rfl, Below.refl _ _⟩
  have t3 : decide (p > 1099511627776) = false := by simp; omega
  have t3b : decide (p > 9223372036852678655) = false := by simp; omega
  by_cases h4 : 1 ≤ gp
  rotate_left
  · have t4 : decide (gp < 1) = true := by simp; omega
    clear h60 h61 hbig
    go_enter Tryd.func3, Tryd.ntmps3
    go_wp2_with (go_at_call 4; refine (HB _).mono ?_; rintro e w2 ⟨rfl, rfl⟩)
    go_ret
    exact ⟨rfl, Below.refl _ _⟩
  have t4 : decide (gp < 1) = false := by simp; omega
  by_cases h5 : gp ≤ 65536
  rotate_left
  · have t5 : decide (gp > 65536) = true := by simp; omega
    clear h60 h61 hbig
    go_enter Tryd.func3, Tryd.ntmps3
    go_wp2_with (go_at_call 4; refine (HB _).mono ?_; rintro e w2 ⟨rfl, rfl⟩)
    go_ret
    exact ⟨rfl, Below.refl _ _⟩
  obtain ⟨pn, rfl⟩ : ∃ n : Nat, p = n := ⟨p.toNat, by omega⟩
  obtain ⟨m, rfl⟩ : ∃ n : Nat, gp = n := ⟨gp.toNat, by omega⟩
  cases c
  · exact span_false pn m s w (by omega) (by omega) (by omega) (by omega) (by omega) h60 hG
  · exact span_true pn m s w (by omega) (by omega) (by omega) (by omega) (by omega) h61 hG
end Go.Proofs.YtfifcdjlijlgmaaDoor
