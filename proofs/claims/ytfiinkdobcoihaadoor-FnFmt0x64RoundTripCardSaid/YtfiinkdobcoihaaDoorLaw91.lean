/-
  FnFmt0x64Whole, walked. Conditions: MaxStringLen reads as laid.
-/
import Derived.Test.YtfiinkdobcoihaaDoorH91
import Derived.Test.YtfiinkdobcoihaaDoorHx91
namespace Go.Proofs.YtfiinkdobcoihaaDoor
open Go.RowKit
set_option maxRecDepth 100000
set_option linter.unusedVariables false

theorem cat_list (a b : List UInt8) : (⟨a.toArray⟩ : ByteArray) ++ ⟨b.toArray⟩ = ⟨(a ++ b).toArray⟩ := by
  apply ByteArray.ext
  simp
theorem zfill0 (l : List UInt8) : zfill 0 l = l := by simp [zfill, rep]
/-- what the law's model writes -/
def wantT (wp mi : Bool) (n : Nat) (l : List UInt8) : List UInt8 := padT wp n mi l
theorem int16_eq (u n : Nat) (wp mi ze lead : Bool) : intT 16 ⟨wp, false, mi, false, lead, false, ze, n, 0⟩ u =
    padT wp n mi (if lead = true then 48 :: 120 :: zfill (if ze = true ∧ wp = true then (n : Int) else 0) (digI 16 u) else zfill (if ze = true ∧ wp = true then (n : Int) else 0) (digI 16 u)) := by
  unfold intT signI sharpI precI
  simp
theorem pad_id (wp mi : Bool) (n : Nat) (l : List UInt8) (h : wp = false ∨ n ≤ l.length) : padT wp n mi l = l := by
  unfold padT rep
  rcases h with rfl | h
  · rfl
  · rw [show n - l.length = 0 by omega]
    cases wp <;> cases mi <;> simp
set_option maxHeartbeats 8000000 in
theorem law_whole (u : Nat) (lead shb wp mi ze : Bool) (wid : Int) (w : World) (hu : u < 18446744073709551616) (hw1 : -9223372036854775808 ≤ wid) (hw2 : wid ≤ 9223372036854775807) (hm : MaxS w) (hg : 0 < w.heap.size) :
    Calls Tryd.prog 4 #[.int .u64 (u : Int), .bool lead, .bool shb, .bool wp, .int .i64 wid, .bool mi, .bool ze] w fun e w' => e = .returned (.bool true) ∧ Below w.heap.size w w' := by
  have HM := Lib.hid hm
  clear hm
  by_cases h0 : wid < 0
  · go_enter Tryd.func4, Tryd.ntmps4
    go_wp2_with fail
    go_ret
    exact ⟨rfl, Below.refl _ _⟩
  by_cases h6 : 65536 < wid
  · go_enter Tryd.func4, Tryd.ntmps4
    go_wp2_with fail
    go_ret
    exact ⟨rfl, Below.refl _ _⟩
  obtain ⟨n, rfl⟩ : ∃ n : Nat, wid = (n : Int) := ⟨wid.toNat, by omega⟩
  have hn : n ≤ 65536 := by omega
  clear h0 hw1 hw2
  by_cases hzm : ze = true ∧ mi = true
  · obtain ⟨rfl, rfl⟩ := hzm
    go_enter Tryd.func4, Tryd.ntmps4
    go_wp2_with fail
    go_ret
    exact ⟨rfl, Below.refl _ _⟩
  have HZM := Lib.hid hzm
  clear hzm
  have HN := Lib.hid (newF_any w HM.out hg)
  have hsp : (ze = false) ∨ (ze = true ∧ mi = false) := by
    have := HZM.out
    cases ze <;> cases mi <;> simp_all
  have HI := Lib.hid (int16_eq u n wp mi ze lead)
  have HDL := digI_len 16 u
  have cat := cat_list
  have HCAT := Lib.hid cat
  clear cat
  rcases hsp with rfl | ⟨rfl, rfl⟩
  · go_enter Tryd.func4, Tryd.ntmps4
    go_wp2_with fail
    refine HN.out.mono ?_
    rintro e w1 ⟨rfl, p1, b1⟩
    have P1 := Lib.hid p1
    have B1 := Lib.hid b1
    clear p1 b1 HN
    go_wp2_with fail
    refine (setWidth_any _ _ _ _ _ wp n w1 P1.out).mono ?_
    rintro e w2 ⟨rfl, p2, b2⟩
    have P2 := Lib.hid p2
    have B2 := Lib.hid (B1.out.trans b2)
    clear p2 b2 P1 B1
    go_wp2_with fail
    refine (setMinus_any _ _ _ _ _ mi w2 P2.out).mono ?_
    rintro e w3 ⟨rfl, p3, b3⟩
    have P3 := Lib.hid p3
    have B3 := Lib.hid (B2.out.trans b3)
    clear p3 b3 P2 B2
    go_wp2_with fail
    refine (setZero_any _ _ _ _ _ false w3 P3.out).mono ?_
    rintro e w4 ⟨rfl, p4, b4⟩
    have P4 := Lib.hid p4
    have B4 := Lib.hid (B3.out.trans b4)
    clear p4 b4 P3 B3
    go_wp2_with fail
    refine (setSharp_any _ _ _ _ _ shb w4 P4.out).mono ?_
    rintro e w5 ⟨rfl, p5, b5⟩
    have P5 := Lib.hid p5
    have B5 := Lib.hid (B4.out.trans b5)
    clear p5 b5 P4 B4
    go_wp2_with fail
    refine (zz0x64_any _ _ _ _ _ u lead w5 P5.out hn (Nat.zero_le _) hu (by show (0 : Nat) + 4000000 ≤ 2147483647; omega) rfl rfl rfl).mono ?_
    rintro e w6 ⟨v6, rfl, p6, b6⟩
    have P6 : Hid (PF w.heap.size w.heap.size ⟨wp, false, mi, false, shb, false, false, n, 0⟩ v6 (intT 16 ⟨wp, false, mi, false, lead, false, false, n, 0⟩ u) w6) := Lib.hid p6
    have B6 := Lib.hid (B5.out.trans b6)
    clear p6 b6 P5 B5
    obtain ⟨T, hT⟩ : ∃ T, intT 16 ⟨wp, false, mi, false, lead, false, false, n, 0⟩ u = T := ⟨_, rfl⟩
    rw [hT] at P6 HI
    clear hT
    go_wp2_with fail
    refine (zzbuf_any _ _ _ _ _ w6 P6.out).mono ?_
    rintro e w6 ⟨rfl, rfl⟩
    go_wp2_with fail
    refine (hex_any u hu w6).mono ?_
    rintro e w7 ⟨rfl, b7⟩
    have P7 := Lib.hid (P6.out.keep b7)
    have B7 := Lib.hid (B6.out.trans (b7.mono B6.out.size))
    clear b7 P6 B6
    generalize digI 16 u = D at HDL HI ⊢
    have HR48 : ∀ k : Nat, k ≤ n → ∀ W : World, Calls Tryd.prog 15 #[.int .u8 48, .int .i64 ((n : Int) - (k : Int))] W fun e w' => e = .returned (.string ⟨(rep (n - k) 48).toArray⟩) ∧ Below W.heap.size W w' := fun k hk W => by
      have := repeat_any 48 (by decide) ((n : Int) - (k : Int)) W (by omega) (by omega)
      rw [show ((n : Int) - (k : Int)).toNat = n - k by omega] at this
      exact this
    have HR32 : ∀ k : Nat, k ≤ n → ∀ W : World, Calls Tryd.prog 15 #[.int .u8 32, .int .i64 ((n : Int) - (k : Int))] W fun e w' => e = .returned (.string ⟨(rep (n - k) 32).toArray⟩) ∧ Below W.heap.size W w' := fun k hk W => by
      have := repeat_any 32 (by decide) ((n : Int) - (k : Int)) W (by omega) (by omega)
      rw [show ((n : Int) - (k : Int)).toNat = n - k by omega] at this
      exact this
    have HH48 := Lib.hid HR48
    have HH32 := Lib.hid HR32
    clear HR48 HR32
    cases lead
    · cases wp
      · have hT : T = (D) := by
          rw [HI.out]
          have hz : zfill (if false = true ∧ false = true then (n : Int) else 0) D = D := by
            rw [if_neg (by simp)]
            exact zfill0 D
          rw [hz]
          rw [if_neg (by decide)]
          exact pad_id _ _ _ _ (Or.inl rfl)
        subst hT
        have cat := HCAT.out
        clear HI
        go_wp2_with fail
        refine (zzsharp_any _ _ _ _ _ w7 P7.out).mono ?_
        rintro e w' ⟨rfl, rfl⟩
        go_wp2_with fail
        go_ret
        exact ⟨by first | rfl | simp, B7.out⟩
      · by_cases hle : n ≤ D.length
        · have hlei : (n : Int) ≤ (D.length : Int) := by omega
          have hT : T = (D) := by
            rw [HI.out]
            have hz : zfill (if false = true ∧ true = true then (n : Int) else 0) D = D := by
              rw [if_neg (by simp)]
              exact zfill0 D
            rw [hz]
            rw [if_neg (by decide)]
            exact pad_id _ _ _ _ (Or.inr (by first | omega | (simp only [List.length_append, rep_len]; omega) | (simp only [List.length_cons]; omega) | (simp only [List.length_cons, List.length_append, rep_len]; omega)))
          subst hT
          have cat := HCAT.out
          clear HI
          go_wp2_with fail
          refine (zzsharp_any _ _ _ _ _ w7 P7.out).mono ?_
          rintro e w' ⟨rfl, rfl⟩
          go_wp2_with fail
          go_ret
          exact ⟨by first | rfl | simp, B7.out⟩
        · have hlti : (D.length : Int) < (n : Int) := by omega
          cases mi
          · have hT : T = rep (n - (D.length)) 32 ++ (D) := by
              rw [HI.out]
              have hz : zfill (if false = true ∧ true = true then (n : Int) else 0) D = D := by
                rw [if_neg (by simp)]
                exact zfill0 D
              rw [hz]
              rw [if_neg (by decide)]
              rfl
            subst hT
            have cat := HCAT.out
            clear HI
            go_wp2_with fail
            refine (HH32.out (D.length) (by omega) w7).mono ?_
            rintro e w8 ⟨rfl, b8⟩
            have P8 := Lib.hid (P7.out.keep b8)
            have B8 := Lib.hid (B7.out.trans (b8.mono B7.out.size))
            clear b8 P7 B7
            obtain ⟨R8, hR8⟩ : ∃ R, rep (n - (D.length)) 32 = R := ⟨_, rfl⟩
            have hRl8 : R8.length ≤ 65536 := by rw [← hR8, rep_len]; omega
            have hnot : True := trivial
            clear hnot
            rw [hR8] at P8 ⊢
            clear hR8
            go_wp2_with fail
            refine (zzsharp_any _ _ _ _ _ w8 P8.out).mono ?_
            rintro e w' ⟨rfl, rfl⟩
            go_wp2_with fail
            go_ret
            exact ⟨by first | rfl | simp, B8.out⟩
          · have hT : T = (D) ++ rep (n - (D.length)) 32 := by
              rw [HI.out]
              have hz : zfill (if false = true ∧ true = true then (n : Int) else 0) D = D := by
                rw [if_neg (by simp)]
                exact zfill0 D
              rw [hz]
              rw [if_neg (by decide)]
              rfl
            subst hT
            have cat := HCAT.out
            clear HI
            go_wp2_with fail
            refine (HH32.out (D.length) (by omega) w7).mono ?_
            rintro e w8 ⟨rfl, b8⟩
            have P8 := Lib.hid (P7.out.keep b8)
            have B8 := Lib.hid (B7.out.trans (b8.mono B7.out.size))
            clear b8 P7 B7
            obtain ⟨R8, hR8⟩ : ∃ R, rep (n - (D.length)) 32 = R := ⟨_, rfl⟩
            have hRl8 : R8.length ≤ 65536 := by rw [← hR8, rep_len]; omega
            have hnot : True := trivial
            clear hnot
            rw [hR8] at P8 ⊢
            clear hR8
            go_wp2_with fail
            refine (zzsharp_any _ _ _ _ _ w8 P8.out).mono ?_
            rintro e w' ⟨rfl, rfl⟩
            go_wp2_with fail
            go_ret
            exact ⟨by first | rfl | simp, B8.out⟩
    · cases wp
      · have hT : T = 48 :: 120 :: (D) := by
          rw [HI.out]
          have hz : zfill (if false = true ∧ false = true then (n : Int) else 0) D = D := by
            rw [if_neg (by simp)]
            exact zfill0 D
          rw [hz]
          rw [if_pos rfl]
          exact pad_id _ _ _ _ (Or.inl rfl)
        subst hT
        have cat := HCAT.out
        clear HI
        go_wp2_with fail
        refine (zzsharp_any _ _ _ _ _ w7 P7.out).mono ?_
        rintro e w' ⟨rfl, rfl⟩
        go_wp2_with fail
        go_ret
        exact ⟨by first | rfl | simp, B7.out⟩
      · by_cases hle : n ≤ D.length + 2
        · have hlei : (n : Int) ≤ (D.length : Int) + 2 := by omega
          have hT : T = 48 :: 120 :: (D) := by
            rw [HI.out]
            have hz : zfill (if false = true ∧ true = true then (n : Int) else 0) D = D := by
              rw [if_neg (by simp)]
              exact zfill0 D
            rw [hz]
            rw [if_pos rfl]
            exact pad_id _ _ _ _ (Or.inr (by first | omega | (simp only [List.length_append, rep_len]; omega) | (simp only [List.length_cons]; omega) | (simp only [List.length_cons, List.length_append, rep_len]; omega)))
          subst hT
          have cat := HCAT.out
          clear HI
          go_wp2_with fail
          refine (zzsharp_any _ _ _ _ _ w7 P7.out).mono ?_
          rintro e w' ⟨rfl, rfl⟩
          go_wp2_with fail
          go_ret
          exact ⟨by first | rfl | simp, B7.out⟩
        · have hlti : (D.length : Int) + 2 < (n : Int) := by omega
          cases mi
          · have hT : T = rep (n - (D.length + 2)) 32 ++ 48 :: 120 :: (D) := by
              rw [HI.out]
              have hz : zfill (if false = true ∧ true = true then (n : Int) else 0) D = D := by
                rw [if_neg (by simp)]
                exact zfill0 D
              rw [hz]
              rw [if_pos rfl]
              rfl
            subst hT
            have cat := HCAT.out
            clear HI
            go_wp2_with fail
            refine (HH32.out (D.length + 2) (by omega) w7).mono ?_
            rintro e w8 ⟨rfl, b8⟩
            have P8 := Lib.hid (P7.out.keep b8)
            have B8 := Lib.hid (B7.out.trans (b8.mono B7.out.size))
            clear b8 P7 B7
            obtain ⟨R8, hR8⟩ : ∃ R, rep (n - (D.length + 2)) 32 = R := ⟨_, rfl⟩
            have hRl8 : R8.length ≤ 65536 := by rw [← hR8, rep_len]; omega
            have hnot : True := trivial
            clear hnot
            rw [hR8] at P8 ⊢
            clear hR8
            go_wp2_with fail
            refine (zzsharp_any _ _ _ _ _ w8 P8.out).mono ?_
            rintro e w' ⟨rfl, rfl⟩
            go_wp2_with fail
            go_ret
            exact ⟨by first | rfl | simp, B8.out⟩
          · have hT : T = (48 :: 120 :: D) ++ rep (n - (D.length + 2)) 32 := by
              rw [HI.out]
              have hz : zfill (if false = true ∧ true = true then (n : Int) else 0) D = D := by
                rw [if_neg (by simp)]
                exact zfill0 D
              rw [hz]
              rw [if_pos rfl]
              rfl
            subst hT
            have cat := HCAT.out
            clear HI
            go_wp2_with fail
            refine (HH32.out (D.length + 2) (by omega) w7).mono ?_
            rintro e w8 ⟨rfl, b8⟩
            have P8 := Lib.hid (P7.out.keep b8)
            have B8 := Lib.hid (B7.out.trans (b8.mono B7.out.size))
            clear b8 P7 B7
            obtain ⟨R8, hR8⟩ : ∃ R, rep (n - (D.length + 2)) 32 = R := ⟨_, rfl⟩
            have hRl8 : R8.length ≤ 65536 := by rw [← hR8, rep_len]; omega
            have hnot : True := trivial
            clear hnot
            rw [hR8] at P8 ⊢
            clear hR8
            go_wp2_with fail
            refine (zzsharp_any _ _ _ _ _ w8 P8.out).mono ?_
            rintro e w' ⟨rfl, rfl⟩
            go_wp2_with fail
            go_ret
            exact ⟨by first | rfl | simp, B8.out⟩
  · go_enter Tryd.func4, Tryd.ntmps4
    go_wp2_with fail
    refine HN.out.mono ?_
    rintro e w1 ⟨rfl, p1, b1⟩
    have P1 := Lib.hid p1
    have B1 := Lib.hid b1
    clear p1 b1 HN
    go_wp2_with fail
    refine (setWidth_any _ _ _ _ _ wp n w1 P1.out).mono ?_
    rintro e w2 ⟨rfl, p2, b2⟩
    have P2 := Lib.hid p2
    have B2 := Lib.hid (B1.out.trans b2)
    clear p2 b2 P1 B1
    go_wp2_with fail
    refine (setMinus_any _ _ _ _ _ false w2 P2.out).mono ?_
    rintro e w3 ⟨rfl, p3, b3⟩
    have P3 := Lib.hid p3
    have B3 := Lib.hid (B2.out.trans b3)
    clear p3 b3 P2 B2
    go_wp2_with fail
    refine (setZero_any _ _ _ _ _ true w3 P3.out).mono ?_
    rintro e w4 ⟨rfl, p4, b4⟩
    have P4 := Lib.hid p4
    have B4 := Lib.hid (B3.out.trans b4)
    clear p4 b4 P3 B3
    go_wp2_with fail
    refine (setSharp_any _ _ _ _ _ shb w4 P4.out).mono ?_
    rintro e w5 ⟨rfl, p5, b5⟩
    have P5 := Lib.hid p5
    have B5 := Lib.hid (B4.out.trans b5)
    clear p5 b5 P4 B4
    go_wp2_with fail
    refine (zz0x64_any _ _ _ _ _ u lead w5 P5.out hn (Nat.zero_le _) hu (by show (0 : Nat) + 4000000 ≤ 2147483647; omega) rfl rfl rfl).mono ?_
    rintro e w6 ⟨v6, rfl, p6, b6⟩
    have P6 : Hid (PF w.heap.size w.heap.size ⟨wp, false, false, false, shb, false, true, n, 0⟩ v6 (intT 16 ⟨wp, false, false, false, lead, false, true, n, 0⟩ u) w6) := Lib.hid p6
    have B6 := Lib.hid (B5.out.trans b6)
    clear p6 b6 P5 B5
    obtain ⟨T, hT⟩ : ∃ T, intT 16 ⟨wp, false, false, false, lead, false, true, n, 0⟩ u = T := ⟨_, rfl⟩
    rw [hT] at P6 HI
    clear hT
    go_wp2_with fail
    refine (zzbuf_any _ _ _ _ _ w6 P6.out).mono ?_
    rintro e w6 ⟨rfl, rfl⟩
    go_wp2_with fail
    refine (hex_any u hu w6).mono ?_
    rintro e w7 ⟨rfl, b7⟩
    have P7 := Lib.hid (P6.out.keep b7)
    have B7 := Lib.hid (B6.out.trans (b7.mono B6.out.size))
    clear b7 P6 B6
    generalize digI 16 u = D at HDL HI ⊢
    have HR48 : ∀ k : Nat, k ≤ n → ∀ W : World, Calls Tryd.prog 15 #[.int .u8 48, .int .i64 ((n : Int) - (k : Int))] W fun e w' => e = .returned (.string ⟨(rep (n - k) 48).toArray⟩) ∧ Below W.heap.size W w' := fun k hk W => by
      have := repeat_any 48 (by decide) ((n : Int) - (k : Int)) W (by omega) (by omega)
      rw [show ((n : Int) - (k : Int)).toNat = n - k by omega] at this
      exact this
    have HR32 : ∀ k : Nat, k ≤ n → ∀ W : World, Calls Tryd.prog 15 #[.int .u8 32, .int .i64 ((n : Int) - (k : Int))] W fun e w' => e = .returned (.string ⟨(rep (n - k) 32).toArray⟩) ∧ Below W.heap.size W w' := fun k hk W => by
      have := repeat_any 32 (by decide) ((n : Int) - (k : Int)) W (by omega) (by omega)
      rw [show ((n : Int) - (k : Int)).toNat = n - k by omega] at this
      exact this
    have HH48 := Lib.hid HR48
    have HH32 := Lib.hid HR32
    clear HR48 HR32
    cases lead
    · cases wp
      · have hT : T = (D) := by
          rw [HI.out]
          have hz : zfill (if True ∧ false = true then (n : Int) else 0) D = D := by
            rw [if_neg (by simp)]
            exact zfill0 D
          rw [hz]
          rw [if_neg (by decide)]
          exact pad_id _ _ _ _ (Or.inl rfl)
        subst hT
        have cat := HCAT.out
        clear HI
        go_wp2_with fail
        refine (zzsharp_any _ _ _ _ _ w7 P7.out).mono ?_
        rintro e w' ⟨rfl, rfl⟩
        go_wp2_with fail
        go_ret
        exact ⟨by first | rfl | simp, B7.out⟩
      · by_cases hle : n ≤ D.length
        · have hlei : (n : Int) ≤ (D.length : Int) := by omega
          have hT : T = (D) := by
            rw [HI.out]
            have hz : zfill (if True ∧ true = true then (n : Int) else 0) D = D := by
              rw [if_pos ⟨trivial, rfl⟩]
              exact zfill_done _ _ (by omega)
            rw [hz]
            rw [if_neg (by decide)]
            exact pad_id _ _ _ _ (Or.inr (by first | omega | (simp only [List.length_append, rep_len]; omega) | (simp only [List.length_cons]; omega) | (simp only [List.length_cons, List.length_append, rep_len]; omega)))
          subst hT
          have cat := HCAT.out
          clear HI
          go_wp2_with fail
          refine (zzsharp_any _ _ _ _ _ w7 P7.out).mono ?_
          rintro e w' ⟨rfl, rfl⟩
          go_wp2_with fail
          go_ret
          exact ⟨by first | rfl | simp, B7.out⟩
        · have hlti : (D.length : Int) < (n : Int) := by omega
          have hT : T = (rep (n - D.length) 48 ++ D) := by
            rw [HI.out]
            have hz : zfill (if True ∧ true = true then (n : Int) else 0) D = rep (n - D.length) 48 ++ D := by
              rw [if_pos ⟨trivial, rfl⟩]
              rfl
            rw [hz]
            rw [if_neg (by decide)]
            exact pad_id _ _ _ _ (Or.inr (by first | omega | (simp only [List.length_append, rep_len]; omega) | (simp only [List.length_cons]; omega) | (simp only [List.length_cons, List.length_append, rep_len]; omega)))
          subst hT
          have cat := HCAT.out
          clear HI
          go_wp2_with fail
          refine (HH48.out (D.length) (by omega) w7).mono ?_
          rintro e w8 ⟨rfl, b8⟩
          have P8 := Lib.hid (P7.out.keep b8)
          have B8 := Lib.hid (B7.out.trans (b8.mono B7.out.size))
          clear b8 P7 B7
          obtain ⟨R8, hR8⟩ : ∃ R, rep (n - (D.length)) 48 = R := ⟨_, rfl⟩
          have hRl8 : R8.length ≤ 65536 := by rw [← hR8, rep_len]; omega
          have hRe8 : (n : Int) ≤ (R8.length : Int) + (D.length : Int) := by rw [← hR8, rep_len]; omega
          have hRf8 : (n : Int) ≤ (R8.length : Int) + (D.length : Int) + 1 + 1 := by omega
          rw [hR8] at P8 ⊢
          clear hR8
          go_wp2_with fail
          refine (zzsharp_any _ _ _ _ _ w8 P8.out).mono ?_
          rintro e w' ⟨rfl, rfl⟩
          go_wp2_with fail
          go_ret
          exact ⟨by first | rfl | simp, B8.out⟩
    · cases wp
      · have hT : T = 48 :: 120 :: (D) := by
          rw [HI.out]
          have hz : zfill (if True ∧ false = true then (n : Int) else 0) D = D := by
            rw [if_neg (by simp)]
            exact zfill0 D
          rw [hz]
          rw [if_pos rfl]
          exact pad_id _ _ _ _ (Or.inl rfl)
        subst hT
        have cat := HCAT.out
        clear HI
        go_wp2_with fail
        refine (zzsharp_any _ _ _ _ _ w7 P7.out).mono ?_
        rintro e w' ⟨rfl, rfl⟩
        go_wp2_with fail
        go_ret
        exact ⟨by first | rfl | simp, B7.out⟩
      · by_cases hle : n ≤ D.length
        · have hlei : (n : Int) ≤ (D.length : Int) := by omega
          have hT : T = 48 :: 120 :: (D) := by
            rw [HI.out]
            have hz : zfill (if True ∧ true = true then (n : Int) else 0) D = D := by
              rw [if_pos ⟨trivial, rfl⟩]
              exact zfill_done _ _ (by omega)
            rw [hz]
            rw [if_pos rfl]
            exact pad_id _ _ _ _ (Or.inr (by first | omega | (simp only [List.length_append, rep_len]; omega) | (simp only [List.length_cons]; omega) | (simp only [List.length_cons, List.length_append, rep_len]; omega)))
          subst hT
          have cat := HCAT.out
          clear HI
          go_wp2_with fail
          refine (zzsharp_any _ _ _ _ _ w7 P7.out).mono ?_
          rintro e w' ⟨rfl, rfl⟩
          go_wp2_with fail
          go_ret
          exact ⟨by first | rfl | simp, B7.out⟩
        · have hlti : (D.length : Int) < (n : Int) := by omega
          have hT : T = 48 :: 120 :: (rep (n - D.length) 48 ++ D) := by
            rw [HI.out]
            have hz : zfill (if True ∧ true = true then (n : Int) else 0) D = rep (n - D.length) 48 ++ D := by
              rw [if_pos ⟨trivial, rfl⟩]
              rfl
            rw [hz]
            rw [if_pos rfl]
            exact pad_id _ _ _ _ (Or.inr (by first | omega | (simp only [List.length_append, rep_len]; omega) | (simp only [List.length_cons]; omega) | (simp only [List.length_cons, List.length_append, rep_len]; omega)))
          subst hT
          have cat := HCAT.out
          clear HI
          go_wp2_with fail
          refine (HH48.out (D.length) (by omega) w7).mono ?_
          rintro e w8 ⟨rfl, b8⟩
          have P8 := Lib.hid (P7.out.keep b8)
          have B8 := Lib.hid (B7.out.trans (b8.mono B7.out.size))
          clear b8 P7 B7
          obtain ⟨R8, hR8⟩ : ∃ R, rep (n - (D.length)) 48 = R := ⟨_, rfl⟩
          have hRl8 : R8.length ≤ 65536 := by rw [← hR8, rep_len]; omega
          have hRe8 : (n : Int) ≤ (R8.length : Int) + (D.length : Int) := by rw [← hR8, rep_len]; omega
          have hRf8 : (n : Int) ≤ (R8.length : Int) + (D.length : Int) + 1 + 1 := by omega
          rw [hR8] at P8 ⊢
          clear hR8
          go_wp2_with fail
          refine (zzsharp_any _ _ _ _ _ w8 P8.out).mono ?_
          rintro e w' ⟨rfl, rfl⟩
          go_wp2_with fail
          go_ret
          exact ⟨by first | rfl | simp, B8.out⟩
end Go.Proofs.YtfiinkdobcoihaaDoor
