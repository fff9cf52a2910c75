/-
  FnWriteConcatenates, walked. Conditions: MaxStringLen reads as laid.
-/
import Derived.Test.YtampnakogmhhhaaDoorPPNew72
import Derived.Test.YtampnakogmhhhaaDoorPPWrite
import Derived.Test.YtampnakogmhhhaaDoorClone72
namespace Go.Proofs.YtampnakogmhhhaaDoor
open Go.RowKit
set_option maxRecDepth 100000
set_option linter.unusedVariables false

set_option maxHeartbeats 400000 in
theorem bytes_72 (o0 : Option Addr) (n0 cap0 : Nat) (o1 : Option Addr) (n1 cap1 : Nat) (w : World) (h0 : n0 ≤ 9223372036854775807) (h1 : n1 ≤ 9223372036854775807) :
    Calls Tryd.prog 4 #[.slice o0 n0 cap0, .slice o1 n1 cap1] w fun e w' => e = .returned (.bool (decide (n0 + n1 ≤ 1048576))) ∧ w = w' := by
  go_enter Tryd.func4, Tryd.ntmps4
  go_wp2
  all_goals (go_ret; first | exact ⟨ret_t (by omega), rfl⟩ | exact ⟨ret_f (by omega), rfl⟩)

def WritePost (B g : Nat) (cs : Array Value) (n : Nat) (l : List UInt8) (w : World) (e : Ending) (w' : World) : Prop :=
  ∃ v', e = .returned (.tuple #[.int .i64 (n : Int), .nilIface]) ∧ PB B g (cs.setIfInBounds 0 v') v' l w' ∧ Below B w w'
set_option maxHeartbeats 400000 in
theorem ppWrite_any (B g : Nat) (cs : Array Value) (v : Value) (buf : List UInt8) (D : Nat) (oA : Option Addr) (cap : Nat) (l : List UInt8) (w : World) (h : PB B g cs v buf w) (hs : SrcAt w D oA l) (hl : buf.length + l.length ≤ 2147483647) :
    Calls Tryd.prog 7 #[.pointer (some ⟨g, 0, none⟩), .slice oA l.length cap] w (WritePost B g cs l.length (buf ++ l) w) := by
  have HC := Lib.hid (bufWrite_any B g cs v buf D oA cap l w h hs hl)
  clear h hs
  go_enter Tryd.func7, Tryd.ntmps7
  go_wp2_with fail
  refine HC.out.mono ?_
  rintro e w2 ⟨v', rfl, hp, hb⟩
  have HP := Lib.hid hp
  have HB := Lib.hid hb
  clear hp hb HC
  go_wp2_with fail
  go_ret2
  exact ⟨v', rfl, HP.out, HB.out⟩

set_option maxHeartbeats 400000 in
theorem zzbuf_any (B g : Nat) (cs : Array Value) (v : Value) (buf : List UInt8) (w : World) (h : PB B g cs v buf w) :
    Calls Tryd.prog 8 #[.pointer (some ⟨g, 0, none⟩)] w fun e w' => e = .returned v ∧ w = w' := by
  obtain ⟨ao, cp, rfl, _, _⟩ := own_val h.own
  have c0 : w.cell? ⟨g, 0, none⟩ = some (.slice ao buf.length cp) := by rw [h.blk.cell, h.c0]
  clear h
  go_enter Tryd.func8, Tryd.ntmps8
  go_wp2_with fail
  go_ret
  exact ⟨rfl, rfl⟩

theorem own_srcAt {w : World} {B n cp : Nat} {ao : Option Addr} {l : List UInt8} (h : w.ownsRow B 5 1 (.slice ao n cp) l.length (u8c l)) : SrcAt w w.heap.size ao l := by
  rcases h.2 with ⟨_, h0⟩ | ⟨g, cap, cur, hv, _, hh, _⟩
  · exact Or.inl (List.eq_nil_of_length_eq_zero h0)
  · injection hv with h1 h2 h3
    subst h1 h2 h3
    exact Or.inr ⟨g, 0, rfl, Blk.lt (t := 5) hh, own_at8 h⟩

set_option maxHeartbeats 4000000 in
theorem law_72 (oA : Option Addr) (capA : Nat) (a : List UInt8) (oB : Option Addr) (capB : Nat) (b : List UInt8) (w : World) (hcA : a.length ≤ capA) (hmA : capA ≤ maxLen) (hsA : SrcAt w w.heap.size oA a) (hnA : oA = none → a = [] ∧ capA = 0)
    (hcB : b.length ≤ capB) (hmB : capB ≤ maxLen) (hsB : SrcAt w w.heap.size oB b) (hnB : oB = none → b = [] ∧ capB = 0) (hm : MaxS w) (hg : 0 < w.heap.size) :
    Calls Tryd.prog 3 #[.slice oA a.length capA, .slice oB b.length capB] w fun e w' => e = .returned (.bool true) ∧ Below w.heap.size w w' := by
  have hlA : a.length ≤ 9223372036854775807 := by simp only [maxLen] at hmA; omega
  have hlB : b.length ≤ 9223372036854775807 := by simp only [maxLen] at hmB; omega
  have HB := fun W => bytes_72 oA a.length capA oB b.length capB W hlA hlB
  by_cases hbig : a.length + b.length ≤ 1048576
  rotate_left
  · rw [decide_eq_false hbig] at HB
    clear hsA hsB hnA hnB hbig hm
    go_enter Tryd.func3, Tryd.ntmps3
    go_wp2_with (go_at_call 4; refine (HB _).mono ?_; rintro e w2 ⟨rfl, rfl⟩)
    go_ret
    exact ⟨rfl, Below.refl _ _⟩
  rw [decide_eq_true hbig] at HB
  by_cases h1 : a.length ≤ 524288
  rotate_left
  · have t1 : decide ((a.length : Int) > 524288) = true := by simp; omega
    clear hsA hsB hnA hnB hbig hm
    go_enter Tryd.func3, Tryd.ntmps3
    go_wp2_with (go_at_call 4; refine (HB _).mono ?_; rintro e w2 ⟨rfl, rfl⟩)
    go_ret
    exact ⟨rfl, Below.refl _ _⟩
  have t1 : decide ((a.length : Int) > 524288) = false := by simp; omega
  by_cases h2 : b.length ≤ 524288
  rotate_left
  · have t2 : decide ((b.length : Int) > 524288) = true := by simp; omega
    clear hsA hsB hnA hnB hbig hm
    go_enter Tryd.func3, Tryd.ntmps3
    go_wp2_with (go_at_call 4; refine (HB _).mono ?_; rintro e w2 ⟨rfl, rfl⟩)
    go_ret
    exact ⟨rfl, Below.refl _ _⟩
  have t2 : decide ((b.length : Int) > 524288) = false := by simp; omega
  have HCA := Lib.hid (clone_any oA capA a w hsA hnA (by omega))
  have HSB := Lib.hid hsB
  have HNB := Lib.hid hnB
  have HM := Lib.hid hm
  clear hsA hsB hnA hnB hm
  go_enter Tryd.func3, Tryd.ntmps3
  go_wp2_with (go_at_call 4; refine (HB _).mono ?_; rintro e w2 ⟨rfl, rfl⟩)
  refine HCA.out.mono ?_
  rintro e w1 ⟨oA1, cA1, rfl, hcA1, hsA1, _, hb1⟩
  have hz1 := hb1.size
  have HCB := Lib.hid (clone_any oB capB b w1 ((HSB.out.keep hb1.block).more hz1) HNB.out (by omega))
  have SA1 := Lib.hid hsA1
  have M1 := Lib.hid (HM.out.keep hg hb1)
  have B1 := Lib.hid hb1
  clear hsA1 hb1 HCA HSB HNB HM HB
  go_wp2_with fail
  refine HCB.out.mono ?_
  rintro e w2 ⟨oB2, cB2, rfl, hcB2, hsB2, _, hb2⟩
  have hz2 := hb2.size
  have SA2 := Lib.hid ((SA1.out.keep hb2.block).more hz2)
  have SB2 := Lib.hid hsB2
  have HN := Lib.hid (newPrinter_any w2 (M1.out.keep (by omega) hb2) (by omega))
  have B2 := Lib.hid (B1.out.trans (hb2.mono hz1))
  clear hsB2 hb2 HCB SA1 M1 B1
  go_wp2_with fail
  refine HN.out.mono ?_
  rintro e w3 ⟨rfl, hp3, hb3⟩
  generalize hg0 : w2.heap.size = g at *
  have HG0 := Lib.hid hg0
  clear hg0
  have HW := Lib.hid (ppWrite_any g g _ _ [] g oA1 cA1 a w3 hp3 (SA2.out.keep hb3.block) (by simp; omega))
  have B3 := Lib.hid hb3
  clear hp3 hb3 HN
  go_wp2_with fail
  refine HW.out.mono ?_
  rintro e w4 ⟨v4, rfl, hp4, hb4⟩
  rw [List.nil_append] at hp4
  have hb24 := B3.out.trans hb4
  have HW2 := Lib.hid (ppWrite_any g g _ _ a g oB2 cB2 b w4 hp4 (SB2.out.keep hb24.block) (by omega))
  have B4 := Lib.hid hb24
  clear hp4 hb4 hb24 HW B3
  go_wp2_with fail
  refine HW2.out.mono ?_
  rintro e w5 ⟨v5, rfl, hp5, hb5⟩
  obtain ⟨ao, cp, rfl, hcp, hmp⟩ := own_val hp5.own
  have hb25 := B4.out.trans hb5
  have SA5 := Lib.hid (SA2.out.keep hb25.block)
  have SB5 := Lib.hid (SB2.out.keep hb25.block)
  have SW5 := Lib.hid (own_srcAt hp5.own)
  have P5 := Lib.hid hp5
  have B5 := Lib.hid (B2.out.trans (hb25.mono (by have := HG0.out; omega)))
  clear hp5 hb5 hb25 HW2 B4 SA2 SB2
  go_wp2_with fail
  refine (zzbuf_any g g _ _ _ _ P5.out).mono ?_
  rintro e w' ⟨rfl, rfl⟩
  have hlen : (a ++ b).length = a.length + b.length := by simp
  rw [hlen]
  have HLN := Lib.hid hlen
  clear hlen P5
  go_wp2_with fail
  go_loopw [11] (fun i wr => ∃ k : Nat, k ≤ a.length ∧ i = .int .i64 k ∧ wr.heap = w5.heap ∧ Below w.heap.size w wr) (fun i _ => a.length - (intOf i).toNat)
  case atStart => exact ⟨0, Nat.zero_le _, rfl, rfl, B5.out⟩
  case round =>
    obtain ⟨k, hk, rfl, heq, hbw⟩ := hrel
    have hh : ∀ j : Nat, wr.heap[j]? = w5.heap[j]? := fun j => by rw [heq]
    have SA := Lib.hid (SA5.out.keep (w' := wr) (fun j _ => hh j))
    have SB := Lib.hid (SB5.out.keep (w' := wr) (fun j _ => hh j))
    have SW := Lib.hid (SW5.out.keep (w' := wr) (fun j _ => hh j))
    have BW := Lib.hid hbw
    have HEQ := Lib.hid heq
    clear hh hbw heq SA5 SB5 SW5 B5
    by_cases hlt : k < a.length
    · obtain ⟨ba, oa, rfl, _, hca⟩ := SA.out.at_ (by omega)
      obtain ⟨bw, ow, rfl, _, hcw⟩ := SW.out.at_ (by have := HLN.out; omega)
      have c1 := hca k hlt
      have c2 := hcw k (by have := HLN.out; omega)
      rw [List.getElem_append_left hlt] at c2
      generalize (a[k].toNat) = z at c1 c2
      have tl : decide ((k : Int) < (a.length : Int)) = true := by simp; omega
      clear hca hcw
      go_wp2_with fail
      go_quiet (fail)
      go_wp2_with fail
      go_roundw
      case rel => exact ⟨k + 1, by omega, by go_num, HEQ.out, below_dn BW.out _⟩
      case measure => simp [intOf]; omega
    · obtain rfl : k = a.length := by omega
      obtain ⟨wo, rfl⟩ : ∃ wo : World, wo = wr := ⟨_, rfl⟩
      go_wp2_with fail
      go_loopw [12] (fun i wr => ∃ k : Nat, k ≤ b.length ∧ i = .int .i64 k ∧ wr.heap = wo.heap ∧ Below w.heap.size w wr) (fun i _ => b.length - (intOf i).toNat)
      case atStart => exact ⟨0, Nat.zero_le _, rfl, rfl, BW.out⟩
      case round =>
        obtain ⟨k, hk, rfl, heq, hbw⟩ := hrel
        have hh : ∀ j : Nat, wr.heap[j]? = wo.heap[j]? := fun j => by rw [heq]
        have SB2 := Lib.hid (SB.out.keep (w' := wr) (fun j _ => hh j))
        have SW2 := Lib.hid (SW.out.keep (w' := wr) (fun j _ => hh j))
        have BW2 := Lib.hid hbw
        have HEQ2 := Lib.hid heq
        clear hh hbw heq SA SB SW BW
        by_cases hlt2 : k < b.length
        · obtain ⟨ba, oa, rfl, _, hca⟩ := SB2.out.at_ (by omega)
          obtain ⟨bw, ow, rfl, _, hcw⟩ := SW2.out.at_ (by have := HLN.out; omega)
          have c1 := hca k hlt2
          have c2 := hcw (a.length + k) (by have := HLN.out; omega)
          rw [List.getElem_append_right (by omega)] at c2
          simp only [Nat.add_sub_cancel_left] at c2
          generalize (b[k].toNat) = z at c1 c2
          have tl : decide ((k : Int) < (b.length : Int)) = true := by simp; omega
          have ew : IntKind.i64.wrap ((a.length : Int) + (k : Int)) = (a.length : Int) + (k : Int) := IntWalk.i64_in _ (by omega)
          have e0 : 0 ≤ (a.length : Int) + (k : Int) := by omega
          have en : ((a.length : Int) + (k : Int)).toNat = a.length + k := by omega
          clear hca hcw
          go_wp2_with fail
          go_quiet (fail)
          clear ew e0 en
          go_wp2_with fail
          go_roundw
          case rel => exact ⟨k + 1, by omega, by go_num, HEQ2.out, below_dn BW2.out _⟩
          case measure => simp [intOf]; omega
        · obtain rfl : k = b.length := by omega
          go_wp2_with fail
          go_ret
          exact ⟨rfl, BW2.out⟩
end Go.Proofs.YtampnakogmhhhaaDoor
