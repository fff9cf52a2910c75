/-
  FnUnaryStringNestedModel, walked. Conditions: the token table reads as laid.
-/
import Derived.Test.YthbcmmgfnmheiaaDoorCh50
namespace Go.Proofs.YthbcmmgfnmheiaaDoor
open Go.RowKit
set_option maxRecDepth 100000
set_option linter.unusedVariables false

set_option maxHeartbeats 400000 in
theorem bytes_50 (o0 : Option Addr) (n0 cap0 : Nat) (kd : Int) (s2 : List UInt8) (w : World) (h0 : n0 ≤ 9223372036854775807) (h2 : s2.length ≤ 9223372036854775807) :
    Calls Tryd.prog 4 #[.slice o0 n0 cap0, .int .u8 kd, .string ⟨s2.toArray⟩] w fun e w' => e = .returned (.bool (decide (n0 + s2.length ≤ 1048576))) ∧ w = w' := by
  go_enter Tryd.func4, Tryd.ntmps4
  go_wp2
  all_goals (go_ret; first | exact ⟨ret_t (by omega), rfl⟩ | exact ⟨ret_f (by omega), rfl⟩)

def openT (l : List UInt8) : List UInt8 := l.flatMap fun b => [40, opS b.toNat]
theorem openT_next (l : List UInt8) (k : Nat) (h : k < l.length) : openT (l.take (k + 1)) = openT (l.take k) ++ [UInt8.ofNat 40] ++ [opS l[k].toNat] := by
  unfold openT
  rw [List.take_succ_eq_append_getElem h, List.flatMap_append]
  simp
theorem openT_len (l : List UInt8) : (openT l).length = 2 * l.length := by
  induction l with
  | nil => rfl
  | cons b r ih => simp [openT] at ih ⊢; omega
theorem chain_flat (l t : List UInt8) : openT l ++ t ++ List.replicate l.length (UInt8.ofNat 41) = chainT l t := by
  induction l with
  | nil => simp [openT, chainT]
  | cons b r ih =>
    have e : openT (b :: r) = 40 :: opS b.toNat :: openT r := by simp [openT]
    rw [e, chainT, ← ih, unT, List.length_cons, List.replicate_succ']
    simp
def ModelPost (l t : List UInt8) (w : World) (e : Ending) (w' : World) : Prop := e = .returned (.string ⟨(chainT l t).toArray⟩) ∧ Below w.heap.size w w'
set_option maxHeartbeats 4000000 in
theorem model_any (oA : Option Addr) (cap n : Nat) (l t : List UInt8) (w : World) (hl : l.length = n) (hn : n ≤ 4096) (ht : t.length ≤ 8192) (hsrc : SrcAt w w.heap.size oA l) :
    Calls Tryd.prog 8 #[.slice oA n cap, .string ⟨t.toArray⟩] w (ModelPost l t w) := by
  have hmk := fun W => mk0 (3 * n + t.length) (by omega) W
  simp only [Int.natCast_add, Int.natCast_mul, Int.cast_ofNat_Int] at hmk
  have hss : (ByteArray.mk t.toArray).size = t.length := by simp [ByteArray.size]
  have O1 := Lib.hid (OwnB.new (w := w) (B := w.heap.size) (k := 3 * n + t.length) (Nat.le_refl _) (by omega))
  have B1 := Lib.hid ((Below.refl w.heap.size w).alloc (Nat.le_refl _) (.cells (madeCells #[.int .u8 0] (3 * n + t.length)) 5))
  have HL := Lib.hid hl
  have HS := Lib.hid hsrc
  clear hl hsrc
  go_enter Tryd.func8, Tryd.ntmps8
  go_wp2_with fail
  go_loopw [5, 6] (fun v i wr => ∃ (k m : Nat) (ao : Option Addr) (cp : Nat), k ≤ n ∧ m ≤ 2 * k ∧ i = .int .i64 k ∧ v = .slice ao m cp ∧ OwnB wr w.heap.size v m (openT (l.take k)) ∧ Below w.heap.size w wr) (fun _ i _ => n - (intOf i).toNat)
  case atStart => exact ⟨0, 0, _, _, Nat.zero_le _, Nat.zero_le _, rfl, rfl, O1.out, B1.out⟩
  case round =>
    obtain ⟨k, m, ao, cp, hk, hm, rfl, rfl, hown, hbw⟩ := hrel
    have HZ := Lib.hid hbw.size
    have BW := Lib.hid hbw
    have OW := Lib.hid hown
    clear hbw O1 B1 hown hmk
    by_cases hlt : k < n
    · have hkl : k < l.length := by rw [HL.out]; exact hlt
      have tl : decide ((k : Int) < (n : Int)) = true := by simp; omega
      obtain ⟨b, o, rfl, hbB, hc⟩ := HS.out.at_ (by omega)
      obtain ⟨y, hy⟩ : ∃ y, l[k] = y := ⟨_, rfl⟩
      have hc1 := hc k hkl
      rw [hy] at hc1
      have HOP := Lib.hid (openT_next l k hkl)
      rw [hy] at HOP
      have HC1 := Lib.hid hc1
      have hyb := UInt8.toNat_lt y
      have HOT := Lib.hid (fun W => opSym_any y.toNat W hyb)
      clear hc hy hc1
      go_wp2_with (at_builtin; refine Hid.out ?_)
      refine Lib.hid ?_
      refine wp_app_one 40 (by decide) rfl (.tmp 21) (.tmp 22) rfl w.heap.size _ m _ rfl OW.out rfl (by omega) HZ.out ?_
      intro ao2 m2 cp2 w2 hm2 ho2 hb2
      have O2 := Lib.hid ho2
      have B2 := Lib.hid (BW.out.trans hb2)
      have c1 := (B2.out.cell (p := ⟨b, o + k, none⟩) hbB).trans HC1.out
      have Z2 := Lib.hid B2.out.size
      clear ho2 hb2 OW BW HZ
      go_wp2_with first | (go_at_call 12; refine (HOT.out _).mono ?_; rintro e w3 ⟨rfl, rfl⟩) | (at_builtin; refine Hid.out ?_)
      refine Lib.hid ?_
      refine wp_app_str rfl (.tmp 24) (.tmp 29) rfl w.heap.size _ m2 _ rfl O2.out [opS y.toNat] rfl (by simp; omega) Z2.out ?_
      intro ao3 m3 cp3 w3 hm3 ho3 hb3
      have hm3' : m3 ≤ 2 * (k + 1) := by simp at hm3; omega
      have O3 : Hid (OwnB w3 w.heap.size (.slice ao3 m3 cp3) m3 (openT (l.take (k + 1)))) := Lib.hid (by rw [HOP.out]; exact ho3)
      have B3 := Lib.hid (B2.out.trans hb3)
      clear ho3 hb3 O2 B2 hm3 hm2 c1
      go_wp2_with fail
      go_roundw
      case rel => exact ⟨k + 1, m3, ao3, cp3, by omega, hm3', by go_num, rfl, O3.out, B3.out⟩
      case measure => simp [intOf]; omega
    · obtain rfl : k = n := by omega
      have tl : decide ((k : Int) < (k : Int)) = false := by simp
      go_wp2_with (at_builtin; refine Hid.out ?_)
      refine Lib.hid ?_
      refine wp_app_str rfl (.tmp 31) (.tmp 32) rfl w.heap.size _ m _ rfl OW.out t rfl (by omega) HZ.out ?_
      intro ao2 m2 cp2 w2 hm2 ho2 hb2
      have O2 : Hid (OwnB w2 w.heap.size (.slice ao2 m2 cp2) m2 (openT l ++ t)) := Lib.hid (by rw [List.take_of_length_le (by rw [HL.out]; omega)] at ho2; exact ho2)
      have B2 := Lib.hid (BW.out.trans hb2)
      clear ho2 hb2 OW BW HZ
      go_wp2_with fail
      go_loopw [5, 7] (fun v i wr => ∃ (j m : Nat) (ao : Option Addr) (cp : Nat), j ≤ k ∧ m ≤ 3 * k + t.length ∧ i = .int .i64 j ∧ v = .slice ao m cp ∧ OwnB wr w.heap.size v m (openT l ++ t ++ List.replicate j (UInt8.ofNat 41)) ∧ Below w.heap.size w wr) (fun _ i _ => k - (intOf i).toNat)
      case atStart => exact ⟨0, m2, _, _, Nat.zero_le _, by omega, rfl, rfl, by simpa using O2.out, B2.out⟩
      case round =>
        obtain ⟨j, m4, ao, cp, hj, hm4, rfl, rfl, hown, hbw⟩ := hrel
        have HZ := Lib.hid hbw.size
        have BW := Lib.hid hbw
        have OW := Lib.hid hown
        clear hbw O2 B2 hown tl
        by_cases hlt : j < k
        · have tl : decide ((j : Int) < (k : Int)) = true := by simp; omega
          go_wp2_with (at_builtin; refine Hid.out ?_)
          refine Lib.hid ?_
          refine wp_app_one 41 (by decide) rfl (.tmp 40) (.tmp 41) rfl w.heap.size _ m4 _ rfl OW.out rfl (by omega) HZ.out ?_
          intro ao5 m5 cp5 w5 hm5 ho5 hb5
          have O5 : Hid (OwnB w5 w.heap.size (.slice ao5 m5 cp5) m5 (openT l ++ t ++ List.replicate (j + 1) (UInt8.ofNat 41))) := Lib.hid (by rw [List.replicate_succ', ← List.append_assoc]; exact ho5)
          have B5 := Lib.hid (BW.out.trans hb5)
          have hm5' : m5 ≤ 3 * k + t.length := by
            have h1 := O5.out.len
            have h2 := openT_len l
            have h3 := HL.out
            simp at h1
            omega
          clear ho5 hb5 OW BW HZ hm5
          go_wp2_with fail
          go_roundw
          case rel => exact ⟨j + 1, m5, ao5, cp5, by omega, hm5', by go_num, rfl, O5.out, B5.out⟩
          case measure => simp [intOf]; omega
        · obtain rfl : j = k := by omega
          have tl : decide ((j : Int) < (j : Int)) = false := by simp
          have htx := OW.out.txt
          go_wp2_with fail
          go_ret
          have e : openT l ++ (t ++ List.replicate j 41) = chainT l t := by
            rw [← chain_flat, HL.out, List.append_assoc]
            rfl
          exact ⟨congrArg (fun x : List UInt8 => Ending.returned (.string ⟨x.toArray⟩)) e, BW.out⟩
set_option maxHeartbeats 2000000 in
theorem law_50 (oA : Option Addr) (cap kd : Nat) (l s : List UInt8) (w : World) (hcap : l.length ≤ cap) (hmax : cap ≤ maxLen) (hsrc : SrcAt w w.heap.size oA l) (hnil : oA = none → l = [] ∧ cap = 0) (hkd : kd < 256) (hsl : s.length ≤ 9223372036854775807) (hk : TokAt w) :
    Calls Tryd.prog 3 #[.slice oA l.length cap, .int .u8 (kd : Int), .string ⟨s.toArray⟩] w fun e w' => e = .returned (.bool true) ∧ Below w.heap.size w w' := by
  have hll : l.length ≤ 9223372036854775807 := by simp only [maxLen] at hmax; omega
  have HB := fun W => bytes_50 oA l.length cap (kd : Int) s W hll hsl
  have hss : (ByteArray.mk s.toArray).size = s.length := by simp [ByteArray.size]
  by_cases hbig : l.length + s.length ≤ 1048576
  rotate_left
  · rw [decide_eq_false hbig] at HB
    clear hsrc hnil hbig hk
    go_enter Tryd.func3, Tryd.ntmps3
    go_wp2_with (go_at_call 4; refine (HB _).mono ?_; rintro e w2 ⟨rfl, rfl⟩)
    go_ret
    exact ⟨rfl, Below.refl _ _⟩
  rw [decide_eq_true hbig] at HB
  by_cases h1 : l.length ≤ 4096
  rotate_left
  · have t1 : decide ((l.length : Int) > 4096) = true := by simp; omega
    clear hsrc hnil hbig hk
    go_enter Tryd.func3, Tryd.ntmps3
    go_wp2_with (go_at_call 4; refine (HB _).mono ?_; rintro e w2 ⟨rfl, rfl⟩)
    go_ret
    exact ⟨rfl, Below.refl _ _⟩
  have t1 : decide ((l.length : Int) > 4096) = false := by simp; omega
  by_cases h2 : s.length ≤ 4096
  rotate_left
  · have t2 : decide ((s.length : Int) > 4096) = true := by simp; omega
    clear hsrc hnil hbig hk
    go_enter Tryd.func3, Tryd.ntmps3
    go_wp2_with (go_at_call 4; refine (HB _).mono ?_; rintro e w2 ⟨rfl, rfl⟩)
    go_ret
    exact ⟨rfl, Below.refl _ _⟩
  have t2 : decide ((s.length : Int) > 4096) = false := by simp; omega
  by_cases h3 : l.length = 0
  · have hz := Lib.hid h3
    rw [h3] at HB t1 ⊢
    clear hsrc hnil hbig hk h3 hcap hll h1
    go_enter Tryd.func3, Tryd.ntmps3
    go_wp2_with (go_at_call 4; refine (HB _).mono ?_; rintro e w2 ⟨rfl, rfl⟩)
    go_ret
    exact ⟨rfl, Below.refl _ _⟩
  obtain ⟨m, hm⟩ : ∃ m, l.length = m + 1 := ⟨l.length - 1, by omega⟩
  have t3 : (((m + 1 : Nat) : Int) == 0) = false := by simp; omega
  have t3b : (m + 1 == 0) = false := by simp
  have HCL := Lib.hid (clone_any oA cap l w hsrc hnil (by omega))
  rw [hm] at HB t1 HCL ⊢
  have HM := Lib.hid hm
  have HK := Lib.hid hk
  have hm1 : m ≤ 4095 := by omega
  clear hsrc hnil hbig hk h1 hcap hll h3 hm
  go_enter Tryd.func3, Tryd.ntmps3
  go_wp2_with first | (go_at_call 4; refine (HB _).mono ?_; rintro e w2 ⟨rfl, rfl⟩) | (go_at_call 5; refine Hid.out ?_)
  refine Lib.hid ?_
  refine HCL.out.mono ?_
  rintro e w1 ⟨oB, capB, rfl, hcB, hsB, _, hb1⟩
  have SB := Lib.hid hsB
  have B1 := Lib.hid hb1
  have HE := Lib.hid HM.out
  rw [HM.out] at hcB ⊢
  clear hsB hb1 HCL
  go_wp2_with (go_at_call 6; refine Hid.out ?_)
  refine Lib.hid ?_
  have HBD : Hid (Calls Tryd.prog 6 #[.slice oB (m + 1) capB, .int .u8 (kd : Int), .string ⟨s.toArray⟩, .int .i64 0] w1 (BuildPost l (leafT kd s) w1)) := Lib.hid (by
    have hk1 := HK.out.agree B1.out.block
    rcases mod4 kd with h | h | h | h
    · exact build_id oB capB m kd l s w1 HE.out (by omega) (by omega) hkd h hk1 SB.out
    · exact build_il oB capB m kd l s w1 HE.out (by omega) (by omega) hkd h hk1 SB.out
    · exact build_sl oB capB m kd l s w1 HE.out (by omega) (by omega) hkd h hk1 SB.out
    · exact build_ud oB capB m kd l s w1 HE.out (by omega) (by omega) hkd h hk1 SB.out)
  refine HBD.out.mono ?_
  rintro e w2 ⟨p, rfl, hp, hsay, hb2⟩
  have HSAY := Lib.hid (hsay w2 (fun _ _ => rfl))
  have B2 := Lib.hid (B1.out.trans (hb2.mono B1.out.size))
  have SB2 := Lib.hid ((SB.out.keep hb2.block).more hb2.size)
  clear hsay hb2 HBD B1 SB
  go_wp2_with (go_at_call 7; refine Hid.out ?_)
  refine Lib.hid ?_
  refine HSAY.out.mono ?_
  rintro e w3 ⟨rfl, n3, rfl⟩
  have hq : Qt w2 (w2.drewN n3) := (Qt.refl w2).drewN n3
  have B3 := Lib.hid (B2.out.trans (hq.below _))
  have SB3 : Hid (SrcAt (w2.drewN n3) (w2.drewN n3).heap.size oB l) := Lib.hid (by have := hq.src SB2.out; rw [hq.heap]; exact this)
  clear hq HSAY B2 SB2
  generalize w2.drewN n3 = w4 at B3 SB3 ⊢
  have hll := leafT_len kd s
  have HLF := Lib.hid (fun W => leafT_any kd s W hkd)
  have HMD := Lib.hid (model_any oB capB (m + 1) l (leafT kd s) w4 HE.out (by omega) (by omega) SB3.out)
  clear hll
  go_wp2_with first | (go_at_call 9; refine (HLF.out _).mono ?_; rintro e w5 ⟨rfl, rfl⟩) | (go_at_call 8; refine Hid.out ?_)
  refine Lib.hid ?_
  refine HMD.out.mono ?_
  rintro e w5 ⟨rfl, hb5⟩
  have B5 := Lib.hid (B3.out.trans (hb5.mono B3.out.size))
  clear hb5 HMD
  go_wp2_with fail
  go_ret
  exact ⟨rfl, B5.out⟩
end Go.Proofs.YthbcmmgfnmheiaaDoor
