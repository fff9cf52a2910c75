/-
  FnPPWriteRuneCaseTable, walked. Conditions: MaxStringLen reads as laid.
-/
import Derived.Test.YtheplijoldihgaaDoorRuneModel82
import Derived.Test.YtheplijoldihgaaDoorClone82
namespace Go.Proofs.YtheplijoldihgaaDoor
open Go.RowKit
set_option maxRecDepth 100000
set_option linter.unusedVariables false

set_option maxHeartbeats 400000 in
theorem bytes_82 (o0 : Option Addr) (n0 cap0 : Nat) (r : Int) (w : World) (h0 : n0 ≤ 9223372036854775807) :
    Calls Tryd.prog 4 #[.slice o0 n0 cap0, .int .i32 r] w fun e w' => e = .returned (.bool (decide (n0 ≤ 1048576))) ∧ w = w' := by
  go_enter Tryd.func4, Tryd.ntmps4
  go_wp2
  all_goals (go_ret; first | exact ⟨ret_t (by omega), rfl⟩ | exact ⟨ret_f (by omega), rfl⟩)

def ppZ : Array Value := #[.slice none 0 0, .nilIface, .pointer none] ++ Array.replicate 12 (.bool false) ++ #[.int .i64 0, .int .i64 0] ++ Array.replicate 68 (.int .u8 0) ++ #[.bool false, .bool false, .bool false]
theorem zero_pp (w : World) : (zeroValue 45).run Tryd.prog w = .ok (.agg ppZ) w := by kernel_rfl
theorem ppZ_size : ppZ.size = 88 := by kernel_rfl
set_option maxHeartbeats 1000000 in
theorem newPP_any (B : Nat) (oA : Option Addr) (cap : Nat) (l : List UInt8) (w : World) (hm : MaxS w) (hg : 0 < B) (ho : w.ownsRow B 5 1 (.slice oA l.length cap) l.length (u8c l)) (hB : B ≤ w.heap.size) :
    Calls Tryd.prog 6 #[.slice oA l.length cap] w fun e w' => e = .returned (.pointer (some ⟨w.heap.size, 0, none⟩)) ∧ PB B w.heap.size (ppZ.setIfInBounds 0 (.slice oA l.length cap)) (.slice oA l.length cap) l w' ∧ Below B w w' := by
  have hz := zero_pp
  go_enter Tryd.func6, Tryd.ntmps6
  go_wp2_with fail
  go_ret
  have hb : Below B w (w.alloc (.cells (ppZ.setIfInBounds 0 (.slice oA l.length cap)) 45)) := (Below.refl _ _).alloc hB _
  exact ⟨rfl, ⟨Blk.new w _ _, by simp [ppZ_size], ho.alloc _, hB, hm.keep hg hb, hg⟩, hb⟩

theorem bufRune_any (B g : Nat) (cs : Array Value) (v : Value) (buf : List UInt8) (r : Int) (w : World) (h : PB B g cs v buf w) (hlo : -2147483648 ≤ r) (hhi : r ≤ 2147483647) (hl : buf.length + 4 ≤ 2147483647) :
    Calls Tryd.prog 11 #[.pointer (some ⟨g, 0, none⟩), .int .i32 r] w (BufPost B g cs (buf ++ encR r) w) := by
  by_cases hr : r < 128
  · have := bufRune_small B g cs v buf r w h hlo hr hl
    unfold encR
    rw [if_pos hr]
    exact this
  · have := bufRune_big B g cs v buf r w h hhi (by omega) hl
    unfold encR
    rw [if_neg hr]
    exact this
def WRPost (B g : Nat) (cs : Array Value) (r : Int) (l : List UInt8) (w : World) (e : Ending) (w' : World) : Prop :=
  ∃ v', e = .returned (.tuple #[.int .i64 (Lib.runeLen r), .nilIface]) ∧ PB B g (cs.setIfInBounds 0 v') v' l w' ∧ Below B w w'
set_option maxHeartbeats 400000 in
theorem ppRune_any (B g : Nat) (cs : Array Value) (v : Value) (buf : List UInt8) (r : Int) (w : World) (h : PB B g cs v buf w) (hlo : -2147483648 ≤ r) (hhi : r ≤ 2147483647) (hl : buf.length + 4 ≤ 2147483647) :
    Calls Tryd.prog 10 #[.pointer (some ⟨g, 0, none⟩), .int .i32 r] w (WRPost B g cs r (buf ++ encR r) w) := by
  have HC := Lib.hid (bufRune_any B g cs v buf r w h hlo hhi hl)
  clear h
  go_enter Tryd.func10, Tryd.ntmps10
  go_wp2_with fail
  refine HC.out.mono ?_
  rintro e w2 ⟨v', rfl, hp, hb⟩
  have HP := Lib.hid hp
  have HB := Lib.hid hb
  clear hp hb HC
  go_wp2_with fail
  refine (Tryd.utf8_RuneLen r w2).mono ?_
  rintro e w3 ⟨rfl, rfl⟩
  go_wp2_with fail
  go_ret2
  exact ⟨v', rfl, HP.out, HB.out⟩
set_option maxHeartbeats 400000 in
theorem zzRune_any (B g : Nat) (cs : Array Value) (v : Value) (buf : List UInt8) (r : Int) (w : World) (h : PB B g cs v buf w) (hlo : -2147483648 ≤ r) (hhi : r ≤ 2147483647) (hl : buf.length + 4 ≤ 2147483647) :
    Calls Tryd.prog 7 #[.pointer (some ⟨g, 0, none⟩), .int .i32 r] w (WRPost B g cs r (buf ++ encR r) w) := by
  have HC := Lib.hid (ppRune_any B g cs v buf r w h hlo hhi hl)
  clear h
  go_enter Tryd.func7, Tryd.ntmps7
  go_wp2_with fail
  refine HC.out.mono ?_
  rintro e w2 ⟨v', rfl, hp, hb⟩
  have HP := Lib.hid hp
  have HB := Lib.hid hb
  clear hp hb HC
  go_wp2_with fail
  go_ret2
  exact ⟨v', rfl, HP.out, HB.out⟩
set_option maxHeartbeats 400000 in
theorem zzbuf_any (B g : Nat) (cs : Array Value) (v : Value) (buf : List UInt8) (w : World) (h : PB B g cs v buf w) :
    Calls Tryd.prog 9 #[.pointer (some ⟨g, 0, none⟩)] w fun e w' => e = .returned v ∧ w = w' := by
  obtain ⟨ao, cp, rfl, _, _⟩ := own_val h.own
  have c0 : w.cell? ⟨g, 0, none⟩ = some (.slice ao buf.length cp) := by rw [h.blk.cell, h.c0]
  clear h
  go_enter Tryd.func9, Tryd.ntmps9
  go_wp2_with fail
  go_ret
  exact ⟨rfl, rfl⟩
theorem encR_len (r : Int) : (encR r).length ≤ 4 := by
  unfold encR
  split
  · simp
  · exact (enc_len4 r).2
theorem zs_cell {w : World} {g : Nat} {z0 z1 z2 z3 : Int} {t : TypeId} (h : Blk w g t #[.int .u8 z0, .int .u8 z1, .int .u8 z2, .int .u8 z3]) (j : Nat) (hj : j < 4) : w.cell? ⟨g, j, none⟩ = some (.int .u8 ([z0, z1, z2, z3].getD j 0)) := by
  rw [h.cell]
  obtain rfl | rfl | rfl | rfl : j = 0 ∨ j = 1 ∨ j = 2 ∨ j = 3 := by omega
  all_goals rfl

set_option maxHeartbeats 4000000 in
theorem law_82 (oA : Option Addr) (capA : Nat) (a : List UInt8) (r : Int) (w : World) (hcA : a.length ≤ capA) (hmA : capA ≤ maxLen) (hsA : SrcAt w w.heap.size oA a) (hnA : oA = none → a = [] ∧ capA = 0)
    (hlo : -2147483648 ≤ r) (hhi : r ≤ 2147483647) (hm : MaxS w) (hg : 0 < w.heap.size) :
    Calls Tryd.prog 3 #[.slice oA a.length capA, .int .i32 r] w fun e w' => e = .returned (.bool true) ∧ Below w.heap.size w w' := by
  have hlA : a.length ≤ 9223372036854775807 := by simp only [maxLen] at hmA; omega
  have HB := fun W => bytes_82 oA a.length capA r W hlA
  by_cases hbig : a.length ≤ 1048576
  rotate_left
  · rw [decide_eq_false hbig] at HB
    clear hsA hnA hbig hm
    go_enter Tryd.func3, Tryd.ntmps3
    go_wp2_with (go_at_call 4; refine (HB _).mono ?_; rintro e w2 ⟨rfl, rfl⟩)
    go_ret
    exact ⟨rfl, Below.refl _ _⟩
  rw [decide_eq_true hbig] at HB
  by_cases h1 : a.length ≤ 1048572
  rotate_left
  · have t1 : decide ((a.length : Int) > 1048572) = true := by simp; omega
    clear hsA hnA hbig hm
    go_enter Tryd.func3, Tryd.ntmps3
    go_wp2_with (go_at_call 4; refine (HB _).mono ?_; rintro e w2 ⟨rfl, rfl⟩)
    go_ret
    exact ⟨rfl, Below.refl _ _⟩
  have t1 : decide ((a.length : Int) > 1048572) = false := by simp; omega
  have HCA := Lib.hid (clone_any oA capA a w hsA hnA (by omega))
  have HM := Lib.hid hm
  clear hsA hnA hm
  go_enter Tryd.func3, Tryd.ntmps3
  go_wp2_with (go_at_call 4; refine (HB _).mono ?_; rintro e w2 ⟨rfl, rfl⟩)
  refine HCA.out.mono ?_
  rintro e w1 ⟨oA1, cA1, rfl, hcA1, hsA1, hnA1, hb1⟩
  have hz1 := hb1.size
  have HCB := Lib.hid (cloneOwn_any oA1 cA1 a w1 hsA1 hnA1 (by omega))
  have SA1 := Lib.hid hsA1
  have M1 := Lib.hid (HM.out.keep hg hb1)
  have B1 := Lib.hid hb1
  clear hsA1 hnA1 hb1 HCA HM HB
  go_wp2_with fail
  refine HCB.out.mono ?_
  rintro e w2 ⟨oB2, cB2, rfl, hcB2, _, _, hb2, ho2⟩
  have hz2 := hb2.size
  have SA2 := Lib.hid (SA1.out.keep hb2.block)
  have HN := Lib.hid (newPP_any w1.heap.size oB2 cB2 a w2 (M1.out.keep (by omega) hb2) (by omega) ho2 hz2)
  have B2 := Lib.hid (B1.out.trans (hb2.mono hz1))
  have L2 := Lib.hid hb2
  clear ho2 hb2 HCB SA1 M1 B1
  go_wp2_with fail
  refine HN.out.mono ?_
  rintro e w3 ⟨rfl, hp3, hb3⟩
  generalize hg0 : w1.heap.size = B at *
  generalize w2.heap.size = g at *
  have HG0 := Lib.hid hg0
  clear hg0
  have HW := Lib.hid (zzRune_any B g _ _ a r w3 hp3 hlo hhi (by omega))
  have B3 := Lib.hid hb3
  clear hp3 hb3 HN
  go_wp2_with fail
  refine HW.out.mono ?_
  rintro e w4 ⟨v4, rfl, hp4, hb4⟩
  obtain ⟨ao, cp, rfl, hcp, hmp⟩ := own_val hp4.own
  have P4 := Lib.hid hp4
  have B4 := Lib.hid (B3.out.trans hb4)
  clear hp4 hb4 HW B3
  go_wp2_with fail
  refine (model_any r w4 hlo hhi).mono ?_
  rintro e w5 ⟨z0, z1, z2, z3, rfl, hzz, hb5⟩
  have hB4 := P4.out.size
  have hlc : (a ++ encR r).length = a.length + (encR r).length := by simp
  have hl4 := encR_len r
  rw [hlc] at hcp
  have hzz2 : ∀ j, j < (encR r).length → [z0, z1, z2, z3].getD j 0 = (((encR r).getD j 0).toNat : Int) := fun j hj => by rw [hzz j hj]; simp [List.getD, hj]
  clear hzz
  have HZZ := Lib.hid hzz2
  have P5 : Hid (PB B g _ _ _ w5) := Lib.hid ⟨P4.out.blk.same (hb5.block _ P4.out.blk.lt), P4.out.c0, own_keep0 P4.out.own (fun k hk => hb5.block k (own_lt8 P4.out.own k hk.symm).2), P4.out.base, P4.out.max.keep (B := w4.heap.size) (by have := P4.out.gmax; omega) hb5, P4.out.gmax⟩
  have B5 := Lib.hid (B4.out.trans (hb5.mono hB4))
  have HLC := Lib.hid hlc
  generalize hel : (encR r).length = m at *
  have HEL := Lib.hid hel
  clear hzz2 hb5 P4 B4 hlc hel
  generalize Lib.runeLen r = rl at *
  go_wp2_with fail
  have h6 := P5.out.alloc (.cells #[.int .u8 z0, .int .u8 z1, .int .u8 z2, .int .u8 z3] 31)
  have k6 := Blk.new w5 31 #[.int .u8 z0, .int .u8 z1, .int .u8 z2, .int .u8 z3]
  have b6 := B5.out.alloc P5.out.size (.cells #[.int .u8 z0, .int .u8 z1, .int .u8 z2, .int .u8 z3] 31)
  generalize (w5.alloc (.cells #[.int .u8 z0, .int .u8 z1, .int .u8 z2, .int .u8 z3] 31)) = w6 at h6 k6 b6 ⊢
  generalize w5.heap.size = g6 at k6 ⊢
  refine (zzbuf_any B g _ _ _ _ h6).mono ?_
  rintro e w' ⟨rfl, rfl⟩
  rw [HLC.out]
  have SA6 := Lib.hid (SA2.out.keep (w' := w6) (fun k hk => b6.block k hk))
  have SW6 := Lib.hid (own_srcAt h6.own)
  have K6 := Lib.hid k6
  have B6 := Lib.hid (B2.out.trans (b6.mono (by have := HG0.out; omega)))
  clear h6 k6 b6 P5 B5 SA2
  go_wp2_with fail
  go_loopw [12] (fun i wr => ∃ k : Nat, k ≤ a.length ∧ i = .int .i64 k ∧ Qt w6 wr) (fun i _ => a.length - (intOf i).toNat)
  case atStart => exact ⟨0, Nat.zero_le _, rfl, Qt.refl _⟩
  case round =>
    obtain ⟨k, hk, rfl, hq⟩ := hrel
    have HQ := Lib.hid hq
    clear hq
    by_cases hlt : k < a.length
    · obtain ⟨ba, oa, rfl, _, hca⟩ := (HQ.out.src SA6.out).at_ (by omega)
      obtain ⟨bw, ow, rfl, _, hcw⟩ := (HQ.out.src SW6.out).at_ (by have := HLC.out; omega)
      have c1 := hca k hlt
      have c2 := hcw k (by have := HLC.out; omega)
      rw [List.getElem_append_left hlt] at c2
      generalize (a[k].toNat) = z at c1 c2
      have tl : decide ((k : Int) < (a.length : Int)) = true := by simp; omega
      clear hca hcw SA6 SW6
      go_wp2_with fail
      go_quiet (fail)
      go_wp2_with fail
      go_roundw
      case rel => exact ⟨k + 1, by omega, by go_num, HQ.out.drewN _⟩
      case measure => simp [intOf]; omega
    · obtain rfl : k = a.length := by omega
      obtain ⟨wo, rfl⟩ : ∃ wo : World, wo = wr := ⟨_, rfl⟩
      have tl : decide ((a.length : Int) < (a.length : Int)) = false := by simp
      go_wp2_with fail
      go_loopw [13] (fun i wr => ∃ k : Nat, k ≤ m ∧ i = .int .i64 k ∧ Qt w6 wr) (fun i _ => m - (intOf i).toNat)
      case atStart => exact ⟨0, Nat.zero_le _, rfl, HQ.out⟩
      case round =>
        obtain ⟨k, hk, rfl, hq⟩ := hrel
        have HQ2 := Lib.hid hq
        clear hq HQ
        by_cases hlt2 : k < m
        · obtain ⟨bw, ow, rfl, _, hcw⟩ := (HQ2.out.src SW6.out).at_ (by have := HLC.out; omega)
          have c2 := hcw (a.length + k) (by have := HLC.out; omega)
          rw [List.getElem_append_right (by omega)] at c2
          simp only [Nat.add_sub_cancel_left] at c2
          have c1 := (HQ2.out.cell _).trans (zs_cell K6.out k (by omega))
          rw [HZZ.out k (by omega)] at c1
          have e2 : ((encR r)[k]'(by have := HEL.out; omega)) = (encR r).getD k 0 := by have := HEL.out; simp [List.getD, show k < (encR r).length by omega]
          rw [e2] at c2
          clear e2
          generalize ((encR r).getD k 0).toNat = z at c1 c2
          have tl : decide ((k : Int) < (m : Int)) = true := by simp; omega
          have ew : IntKind.i64.wrap ((a.length : Int) + (k : Int)) = (a.length : Int) + (k : Int) := IntWalk.i64_in _ (by omega)
          have e0 : 0 ≤ (a.length : Int) + (k : Int) := by omega
          have en : ((a.length : Int) + (k : Int)).toNat = a.length + k := by omega
          have hk4 : (k : Int) < 4 := by omega
          clear hcw SA6 SW6
          go_wp2_with fail
          go_quiet (fail)
          clear ew e0 en
          go_wp2_with fail
          go_roundw
          case rel => exact ⟨k + 1, by omega, by go_num, HQ2.out.drewN _⟩
          case measure => simp [intOf]; omega
        · obtain rfl : k = m := by omega
          have tl : decide ((k : Int) < (k : Int)) = false := by simp
          go_wp2_with fail
          go_ret
          exact ⟨rfl, B6.out.trans (HQ2.out.below _)⟩
end Go.Proofs.YtheplijoldihgaaDoor
