/-
  FnBytesDecimalList, walked. Conditions: MaxStringLen reads as laid.
-/
import Derived.Test.YtohcajfgmgpoeaaDoorFby97
import Derived.Test.YtohcajfgmgpoeaaDoorNew97
import Derived.Test.YtohcajfgmgpoeaaDoorZd97
import Derived.WalkSpells
namespace Go.Proofs.YtohcajfgmgpoeaaDoor
open Go.RowKit
set_option maxRecDepth 100000
set_option linter.unusedVariables false

set_option maxHeartbeats 400000 in
theorem bytes_list (oA : Option Addr) (n cap : Nat) (vb : Int) (s : List UInt8) (w : World) (h0 : n ≤ 9223372036854775807) (h1 : s.length ≤ 9223372036854775807) :
    Calls Tryd.prog 5 #[.slice oA n cap, .int .i32 vb, .string ⟨s.toArray⟩] w fun e w' => e = .returned (.bool (decide (n + s.length ≤ 1048576))) ∧ w = w' := by
  go_enter Tryd.func5, Tryd.ntmps5
  go_wp2
  all_goals (go_ret; first | exact ⟨ret_t (by omega), rfl⟩ | exact ⟨ret_f (by omega), rfl⟩)
theorem mk0L (k : Nat) (hk : k ≤ 16777216) (w : World) : (Instr.makeSlice 22 (.int .i64 0) (.int .i64 (k : Int))).run Tryd.prog w = .ok (.slice (some ⟨w.heap.size, 0, none⟩) 0 k) (w.alloc (.cells (madeCells #[.int .u8 0] k) 5)) := by
  obtain ⟨i0, hi, hz0, hz1, hz2⟩ := info_parts u8_info
  have h := run_make (P := Tryd.prog) w 22 5 i0 _ Tryd.underlying22 hi hz0 .i64 .i64 0 k (by omega) (by omega) (by rw [hz2]; omega) (by omega)
  rw [h, hz1]
  simp [Value.cells]
theorem OwnB.newL {w : World} {B k : Nat} (hB : B ≤ w.heap.size) (hk : k ≤ 16777216) : OwnB (w.alloc (.cells (madeCells #[.int .u8 0] k) 5)) B (.slice (some ⟨w.heap.size, 0, none⟩) 0 k) 0 [] :=
  ⟨by simp [u8c], Or.inr ⟨w.heap.size, k, _, rfl, hB, Blk.new w 5 (madeCells #[.int .u8 0] k), Nat.zero_le _, by simp [maxLen]; omega, by simp [size_madeCells], by simp [u8c]⟩⟩
theorem zzfb_any (a b c d : Value) (w : World) (Q : Ending → World → Prop) (hQ : ∀ e w', Q e w' → e = .returned (.tuple #[])) (h : Calls Tryd.prog 13 #[a, b, c, d] w Q) : Calls Tryd.prog 7 #[a, b, c, d] w Q := by
  have HC := Lib.hid h
  have HQ := Lib.hid hQ
  clear h hQ
  go_enter Tryd.func7, Tryd.ntmps7
  go_wp2_with fail
  refine HC.out.mono ?_
  rintro e w2 hq
  obtain rfl := HQ.out _ _ hq
  have H := Lib.hid hq
  clear hq
  go_wp2_with fail
  go_end0
  exact H.out
theorem fb_ret {B g : Nat} {fl : Fl} {l : List UInt8} {w : World} : ∀ e w', FBPost B g fl l w e w' → e = .returned (.tuple #[]) := by
  rintro e w' ⟨v', h, _⟩
  exact h
theorem int10_bare (u : Nat) : intT 10 ⟨false, false, false, false, false, false, false, 0, 0⟩ u = digI 10 u := by
  unfold intT signI sharpI precI padT zfill rep
  simp
set_option maxHeartbeats 8000000 in
theorem law_list (oA : Option Addr) (capA : Nat) (src : List UInt8) (vb : Int) (ts : List UInt8) (w : World) (hcA : src.length ≤ capA) (hmA : capA ≤ maxLen) (hsA : SrcAt w w.heap.size oA src) (hnA : oA = none → src = [] ∧ capA = 0) (hts : ts.length ≤ 9223372036854775807)
    (hm : MaxS w) (hg : 0 < w.heap.size) :
    Calls Tryd.prog 3 #[.slice oA src.length capA, .int .i32 vb, .string ⟨ts.toArray⟩] w fun e w' => e = .returned (.bool true) ∧ Below w.heap.size w w' := by
  have hlA : src.length ≤ 9223372036854775807 := by simp only [maxLen] at hmA; omega
  have HB := fun W => bytes_list oA src.length capA vb ts W hlA hts
  by_cases hbig : src.length + ts.length ≤ 1048576
  rotate_left
  · rw [decide_eq_false hbig] at HB
    clear hsA hnA hbig hm
    go_enter Tryd.func3, Tryd.ntmps3
    go_wp2_with (go_at_call 5; refine (HB _).mono ?_; rintro e w2 ⟨rfl, rfl⟩)
    go_ret
    exact ⟨rfl, Below.refl _ _⟩
  rw [decide_eq_true hbig] at HB
  have hgt : decide ((src.length : Int) + (ts.length : Int) > 1048576) = false := by simp; omega
  by_cases hx : vb = 115 ∨ vb = 120 ∨ vb = 88 ∨ vb = 113
  · clear hsA hnA hm
    rcases hx with rfl | rfl | rfl | rfl
    all_goals
      go_enter Tryd.func3, Tryd.ntmps3
      go_wp2_with (go_at_call 5; refine (HB _).mono ?_; rintro e w2 ⟨rfl, rfl⟩)
      go_ret
      exact ⟨rfl, Below.refl _ _⟩
  have t1 : (vb == 115) = false := by simp; omega
  have t2 : (vb == 120) = false := by simp; omega
  have t3 : (vb == 88) = false := by simp; omega
  have t4 : (vb == 113) = false := by simp; omega
  have hx1 : vb ≠ 115 ∧ vb ≠ 120 ∧ vb ≠ 88 ∧ vb ≠ 113 := by omega
  have HX := Lib.hid hx1
  have HM := Lib.hid hm
  have hq := fun W => run_neq_slice_nil (P := Tryd.prog) W 22 5 oA src.length capA Tryd.underlying22
  clear hx hx1 hm
  rcases oA with _ | p
  · obtain ⟨rfl, rfl⟩ := hnA rfl
    simp only [Option.isNone_none, Bool.not_true, List.length_nil] at hq
    have S0 : Hid (SrcAt w w.heap.size none []) := Lib.hid (Or.inl rfl)
    have B0 : Hid (Below w.heap.size w w) := Lib.hid (Below.refl _ _)
    have HG := Lib.hid hg
    clear hsA hnA hlA hmA hcA
    go_enter Tryd.func3, Tryd.ntmps3
    go_wp2_with (go_at_call 5; refine (HB _).mono ?_; rintro e w2 ⟨rfl, rfl⟩)
    clear HB hq
    have hz0 := B0.out.size
    have HN := Lib.hid (newF_any 0 0 false false false false false w HM.out HG.out)
    simp only [Int.cast_ofNat_Int] at HN
    refine HN.out.mono ?_
    rintro e w2 ⟨rfl, p2, b2⟩
    have P2 := Lib.hid p2
    have B2 := Lib.hid b2
    have S2 := Lib.hid (S0.out.keep b2.block)
    clear p2 b2 HN
    by_cases hvd : vb = 118 ∨ vb = 100
    rotate_left
    · have t5 : (vb != 118) = true := by simp; omega
      have t6 : (vb != 100) = true := by simp; omega
      have t5b : (vb == 118) = false := by simp; omega
      have t6b : (vb == 100) = false := by simp; omega
      have HF := Lib.hid (zzfb_any _ _ _ _ w2 _ fb_ret (fmtBytes_none w.heap.size w.heap.size _ _ vb (.slice none 0 0) ⟨ts.toArray⟩ w2 P2.out (by omega) (by omega) HX.out.1 HX.out.2.1 HX.out.2.2.1 HX.out.2.2.2))
      clear hvd
      go_wp2_with fail
      refine HF.out.mono ?_
      rintro e w3 ⟨v3, rfl, p3, b3⟩
      have P3 := Lib.hid p3
      have B3 := Lib.hid (B0.out.trans ((B2.out.trans b3).mono hz0))
      clear p3 b3 HF
      go_wp2_with fail
      refine (zzout_any _ _ _ _ _ w3 P3.out).mono ?_
      rintro e w4 ⟨rfl, rfl⟩
      go_wp2_with fail
      go_ret
      exact ⟨by first | rfl | simp, B3.out⟩
    have HF := Lib.hid (zzfb_any _ _ _ _ w2 _ fb_ret (fmtBytes_list w.heap.size w.heap.size _ _ vb none 0 ([] : List UInt8) ⟨ts.toArray⟩ w2 P2.out (Nat.zero_le _) (Nat.zero_le _) rfl rfl S2.out hvd (by show (([] : List UInt8)).length * 25 ≤ 2000000000; simp)))
    have hvv : (vb != 118) = false ∨ ((vb != 118) = true ∧ (vb != 100) = false) := by
      rcases hvd with rfl | rfl
      · exact Or.inl rfl
      · exact Or.inr ⟨rfl, rfl⟩
    clear hvd
    go_wp2_with fail
    refine HF.out.mono ?_
    rintro e w3 ⟨v3, rfl, p3, b3⟩
    obtain ⟨T, hT⟩ : ∃ T, [91] ++ jn (intT 10 ⟨false, false, false, false, false, false, false, 0, 0⟩) ([] : List UInt8) (([] : List UInt8)).length ++ [93] = T := ⟨_, rfl⟩
    have P3 : Hid (PF w.heap.size w.heap.size ⟨false, false, false, false, false, false, false, 0, 0⟩ v3 T w3) := Lib.hid (by rw [← hT]; exact p3)
    have HT := Lib.hid hT
    have b3' := B2.out.trans b3
    have S3 := Lib.hid (S0.out.keep b3'.block)
    have B3 := Lib.hid (B0.out.trans (b3'.mono hz0))
    have hz3 := b3'.size
    clear p3 b3 HF hT b3'
    go_wp2_with fail
    refine (zzout_any _ _ _ _ _ w3 P3.out).mono ?_
    rintro e w4 ⟨rfl, rfl⟩
    have hKi : True := trivial
    have hmk := fun W => mk0L 2 (by omega) W
    simp only [Int.cast_ofNat_Int] at hmk
    have HO := Lib.hid (OwnB.newL (w := w3) (B := w3.heap.size) (k := 2) (Nat.le_refl _) (by omega))
    have HBL := Lib.hid ((Below.refl w3.heap.size w3).alloc (Nat.le_refl _) (.cells (madeCells #[.int .u8 0] 2) 5))
    rcases hvv with q1 | ⟨q1, q2⟩
    all_goals
      go_wp2_with (at_builtin; refine Hid.out ?_)
      have HSZ : Hid ((w3.alloc (.cells (madeCells #[.int .u8 0] 2) 5)).heap.size = w3.heap.size + 1) := Lib.hid (by simp)
      generalize hwa : (w3.alloc (.cells (madeCells #[.int .u8 0] 2) 5)) = wa at HO HBL HSZ ⊢
      clear hwa hmk hKi
      refine Lib.hid ?_
      refine wp_app_one 91 (by decide) rfl (.tmp 64) (.tmp 65) rfl w3.heap.size _ 0 [] rfl HO.out (by rw [HSZ.out]; rfl) (by omega) HBL.out.size ?_
      intro ao5 k5 cp5 w5 hk5 ho5 hb5
      have HO5 := Lib.hid ho5
      have HB5 := Lib.hid (HBL.out.trans hb5)
      clear ho5 hb5 HO HBL
      go_wp2_with fail
      go_loopw [9, 10] (fun v9 v10 wr => ∃ (k n : Nat) (l : List UInt8), k ≤ (([] : List UInt8)).length ∧ v10 = .int .i64 (k : Int) ∧ l = [91] ++ jn (intT 10 ⟨false, false, false, false, false, false, false, 0, 0⟩) ([] : List UInt8) k ∧ n ≤ 1 + k * 25 ∧ OwnB wr w3.heap.size v9 n l ∧ Below w3.heap.size w3 wr) (fun _ v10 _ => (([] : List UInt8)).length - (intOf v10).toNat)
      case atStart => exact ⟨0, k5, [91], Nat.zero_le _, rfl, rfl, by omega, HO5.out, HB5.out⟩
      case round =>
        obtain ⟨k, n, l, hk, rfl, hl, hn, ho, hbr⟩ := hrel
        clear HO5 HB5
        obtain ⟨aor, cpr, rfl, _, _⟩ := ho.val
        have HO := Lib.hid ho
        have HBR := Lib.hid hbr
        have HL := Lib.hid hl
        have hzr := hbr.size
        clear ho hbr hl
        by_cases hlt : k < (([] : List UInt8)).length
        · obtain ⟨b, o, eo, hbB, hcc⟩ := S3.out.at_ (by omega)
          cases eo
        · obtain rfl : k = (([] : List UInt8)).length := by omega
          have hn9 : n + 1 ≤ 4294967296 := by simp at hn; omega
          go_wp2_with (at_builtin; refine Hid.out ?_)
          refine Lib.hid ?_
          refine wp_app_one 93 (by decide) rfl (.tmp 86) (.tmp 87) rfl w3.heap.size _ n l rfl HO.out rfl hn9 hzr ?_
          intro ao6 k6 cp6 w6 hk6 ho6 hb6
          have hfin : l ++ [UInt8.ofNat 93] = T := by rw [HL.out, ← HT.out]; rfl
          rw [hfin] at ho6
          have hcv := ho6.txt
          have HB6 := Lib.hid (B3.out.trans ((HBR.out.trans hb6).mono (by omega)))
          clear ho6 hb6 hfin HO HBR HL
          go_wp2_with fail
          go_ret
          exact ⟨by first | rfl | simp, HB6.out⟩
  · simp only [Option.isNone_some, Bool.not_false] at hq
    have hmk := fun W => mk0L src.length (by omega) W
    have HS := Lib.hid (src_bytes (cap := capA) Tryd.underlying22 hsA)
    have hO := OwnB.newL (w := w) (B := w.heap.size) (k := src.length) (Nat.le_refl _) (by omega)
    have hbl := (Below.refl w.heap.size w).alloc (Nat.le_refl _) (.cells (madeCells #[.int .u8 0] src.length) 5)
    have HS2 : Hid (Src Tryd.prog 1 22 (.slice (some p) src.length capA) src.length (u8c src) (w.alloc (.cells (madeCells #[.int .u8 0] src.length) 5))) := Lib.hid (src_bytes Tryd.underlying22 (hsA.keep hbl.block))
    have HO := Lib.hid hO
    have HBL := Lib.hid hbl
    clear hsA hnA hlA hmA hcA hO hbl HS
    go_enter Tryd.func3, Tryd.ntmps3
    go_wp2_with first | (go_at_call 5; refine (HB _).mono ?_; rintro e w2 ⟨rfl, rfl⟩) | (at_builtin; refine Hid.out ?_)
    clear HB hq hmk
    refine Lib.hid ?_
    refine wp_app rfl (.tmp 40) (.tmp 41) 22 rfl w.heap.size _ 0 [] rfl HO.out _ src.length src rfl HS2.out (by omega) HBL.out.size ?_
    intro ao cp w1 hcp1 ho1 hb1 _
    rw [Nat.zero_add, List.nil_append] at ho1
    rw [Nat.zero_add] at hcp1
    have S0 := Lib.hid ho1.src
    have B0 := Lib.hid (HBL.out.trans hb1)
    have hg1 := B0.out.size
    have HG : Hid (0 < w1.heap.size) := Lib.hid (by omega)
    have HM1 := Lib.hid (HM.out.keep hg B0.out)
    rw [Nat.zero_add]
    clear ho1 hb1 HO HBL HS2 HM
    go_wp2_with fail
    have hz0 := B0.out.size
    have HN := Lib.hid (newF_any 0 0 false false false false false w1 HM1.out HG.out)
    simp only [Int.cast_ofNat_Int] at HN
    refine HN.out.mono ?_
    rintro e w2 ⟨rfl, p2, b2⟩
    have P2 := Lib.hid p2
    have B2 := Lib.hid b2
    have S2 := Lib.hid (S0.out.keep b2.block)
    clear p2 b2 HN
    by_cases hvd : vb = 118 ∨ vb = 100
    rotate_left
    · have t5 : (vb != 118) = true := by simp; omega
      have t6 : (vb != 100) = true := by simp; omega
      have t5b : (vb == 118) = false := by simp; omega
      have t6b : (vb == 100) = false := by simp; omega
      have HF := Lib.hid (zzfb_any _ _ _ _ w2 _ fb_ret (fmtBytes_none w1.heap.size w1.heap.size _ _ vb (.slice ao src.length cp) ⟨ts.toArray⟩ w2 P2.out (by omega) (by omega) HX.out.1 HX.out.2.1 HX.out.2.2.1 HX.out.2.2.2))
      clear hvd
      go_wp2_with fail
      refine HF.out.mono ?_
      rintro e w3 ⟨v3, rfl, p3, b3⟩
      have P3 := Lib.hid p3
      have B3 := Lib.hid (B0.out.trans ((B2.out.trans b3).mono hz0))
      clear p3 b3 HF
      go_wp2_with fail
      refine (zzout_any _ _ _ _ _ w3 P3.out).mono ?_
      rintro e w4 ⟨rfl, rfl⟩
      go_wp2_with fail
      go_ret
      exact ⟨by first | rfl | simp, B3.out⟩
    have HF := Lib.hid (zzfb_any _ _ _ _ w2 _ fb_ret (fmtBytes_list w1.heap.size w1.heap.size _ _ vb ao cp src ⟨ts.toArray⟩ w2 P2.out (Nat.zero_le _) (Nat.zero_le _) rfl rfl S2.out hvd (by show src.length * 25 ≤ 2000000000; omega)))
    have hvv : (vb != 118) = false ∨ ((vb != 118) = true ∧ (vb != 100) = false) := by
      rcases hvd with rfl | rfl
      · exact Or.inl rfl
      · exact Or.inr ⟨rfl, rfl⟩
    clear hvd
    go_wp2_with fail
    refine HF.out.mono ?_
    rintro e w3 ⟨v3, rfl, p3, b3⟩
    obtain ⟨T, hT⟩ : ∃ T, [91] ++ jn (intT 10 ⟨false, false, false, false, false, false, false, 0, 0⟩) src src.length ++ [93] = T := ⟨_, rfl⟩
    have P3 : Hid (PF w1.heap.size w1.heap.size ⟨false, false, false, false, false, false, false, 0, 0⟩ v3 T w3) := Lib.hid (by rw [← hT]; exact p3)
    have HT := Lib.hid hT
    have b3' := B2.out.trans b3
    have S3 := Lib.hid (S0.out.keep b3'.block)
    have B3 := Lib.hid (B0.out.trans (b3'.mono hz0))
    have hz3 := b3'.size
    clear p3 b3 HF hT b3'
    go_wp2_with fail
    refine (zzout_any _ _ _ _ _ w3 P3.out).mono ?_
    rintro e w4 ⟨rfl, rfl⟩
    obtain ⟨K, hK⟩ : ∃ K : Nat, 4 * src.length + 2 = K := ⟨_, rfl⟩
    have hKi : 4 * ((src.length : Nat) : Int) + 2 = (K : Int) := by omega
    have hK2 : K ≤ 16777216 := by omega
    have hmk := fun W => mk0L K hK2 W
    have HO := Lib.hid (OwnB.newL (w := w3) (B := w3.heap.size) (k := K) (Nat.le_refl _) hK2)
    have HBL := Lib.hid ((Below.refl w3.heap.size w3).alloc (Nat.le_refl _) (.cells (madeCells #[.int .u8 0] K) 5))
    clear hK
    rcases hvv with q1 | ⟨q1, q2⟩
    all_goals
      go_wp2_with (at_builtin; refine Hid.out ?_)
      have HSZ : Hid ((w3.alloc (.cells (madeCells #[.int .u8 0] K) 5)).heap.size = w3.heap.size + 1) := Lib.hid (by simp)
      generalize hwa : (w3.alloc (.cells (madeCells #[.int .u8 0] K) 5)) = wa at HO HBL HSZ ⊢
      clear hwa hmk hKi
      refine Lib.hid ?_
      refine wp_app_one 91 (by decide) rfl (.tmp 64) (.tmp 65) rfl w3.heap.size _ 0 [] rfl HO.out (by rw [HSZ.out]; rfl) (by omega) HBL.out.size ?_
      intro ao5 k5 cp5 w5 hk5 ho5 hb5
      have HO5 := Lib.hid ho5
      have HB5 := Lib.hid (HBL.out.trans hb5)
      clear ho5 hb5 HO HBL
      go_wp2_with fail
      go_loopw [9, 10] (fun v9 v10 wr => ∃ (k n : Nat) (l : List UInt8), k ≤ src.length ∧ v10 = .int .i64 (k : Int) ∧ l = [91] ++ jn (intT 10 ⟨false, false, false, false, false, false, false, 0, 0⟩) src k ∧ n ≤ 1 + k * 25 ∧ OwnB wr w3.heap.size v9 n l ∧ Below w3.heap.size w3 wr) (fun _ v10 _ => src.length - (intOf v10).toNat)
      case atStart => exact ⟨0, k5, [91], Nat.zero_le _, rfl, rfl, by omega, HO5.out, HB5.out⟩
      case round =>
        obtain ⟨k, n, l, hk, rfl, hl, hn, ho, hbr⟩ := hrel
        clear HO5 HB5
        obtain ⟨aor, cpr, rfl, _, _⟩ := ho.val
        have HO := Lib.hid ho
        have HBR := Lib.hid hbr
        have HL := Lib.hid hl
        have hzr := hbr.size
        clear ho hbr hl
        by_cases hlt : k < src.length
        · obtain ⟨b, o, eo, hbB, hcc⟩ := S3.out.at_ (by omega)
          have hnn : True := trivial
          subst eo
          have hcell : wr.cell? ⟨b, o + k, none⟩ = some (.int .u8 ((src.getD k 0).toNat : Int)) := by
            rw [(HBR.out.cell (p := ⟨b, o + k, none⟩) (by show b < _; omega)), hcc k hlt]
            simp [List.getD, hlt]
          obtain ⟨c, hcd⟩ : ∃ c, (src.getD k 0).toNat = c := ⟨_, rfl⟩
          have hu8 : c < 256 := by rw [← hcd]; exact UInt8.toNat_lt _
          rw [hcd] at hcell
          have HN : Hid (∀ x : List UInt8, x = (if k = 0 then [] else [32]) → (l ++ x) ++ digI 10 c = [91] ++ jn (intT 10 ⟨false, false, false, false, false, false, false, 0, 0⟩) src (k + 1)) := Lib.hid (fun x hx => by
            rw [hx, HL.out]
            simp only [jn]
            rw [hcd, int10_bare]
            simp only [List.append_assoc])
          have hdl := digI_len 10 c
          have hcell2 := hcell
          clear hcd hcc
          by_cases hk0 : k = 0
          · have t5 : decide (0 < k) = false := by simp; omega
            have t5b : ¬ 0 < k := by omega
            have HX := Lib.hid (HN.out [] (by rw [if_pos hk0]))
            rw [List.append_nil] at HX
            clear HN hk0
            have HD := Lib.hid (dec_any c (by omega) wr)
            go_wp2_with fail
            refine HD.out.mono ?_
            rintro e w5 ⟨rfl, b5⟩
            have HO5 := Lib.hid (HO.out.below b5)
            have HB5 := Lib.hid (HBR.out.trans (b5.mono hzr))
            have hz5 := HB5.out.size
            clear b5 HD HO HBR
            go_wp2_with (at_builtin; refine Hid.out ?_)
            refine Lib.hid ?_
            refine wp_app_str rfl (.tmp 78) (.tmp 84) rfl w3.heap.size _ n l rfl HO5.out (digI 10 c) rfl (by omega) hz5 ?_
            intro ao6 k6 cp6 w6 hk6 ho6 hb6
            rw [HX.out] at ho6
            have HO6 := Lib.hid ho6
            have HB6 := Lib.hid (HB5.out.trans hb6)
            clear ho6 hb6 HO5 HB5 HX
            go_wp2_with fail
            go_roundw
            case rel => exact ⟨k + 1, k6, _, hlt, by go_num, rfl, by omega, HO6.out, HB6.out⟩
            case measure => simp [intOf]; omega
          · have t5 : decide (0 < k) = true := by simp; omega
            have t5b : 0 < k := by omega
            have HX := Lib.hid (HN.out [32] (by rw [if_neg hk0]))
            clear HN hk0
            go_wp2_with (at_builtin; refine Hid.out ?_)
            refine Lib.hid ?_
            refine wp_app_one 32 (by decide) rfl (.tmp 75) (.tmp 76) rfl w3.heap.size _ n l rfl HO.out rfl (by omega) hzr ?_
            intro ao4 k4 cp4 w4 hk4 ho4 hb4
            have HO4 := Lib.hid ho4
            have HB4 := Lib.hid (HBR.out.trans hb4)
            have hz4 := HB4.out.size
            have hcell4 : w4.cell? ⟨b, o + k, none⟩ = some (.int .u8 (c : Int)) := by rw [hb4.cell (p := ⟨b, o + k, none⟩) (by show b < _; omega)]; exact hcell2
            have HD := Lib.hid (dec_any c (by omega) w4)
            clear ho4 hb4 HO HBR hcell hcell2
            go_wp2_with fail
            refine HD.out.mono ?_
            rintro e w5 ⟨rfl, b5⟩
            have HO5 := Lib.hid (HO4.out.below b5)
            have HB5 := Lib.hid (HB4.out.trans (b5.mono hz4))
            have hz5 := HB5.out.size
            clear b5 HD HO4 HB4
            go_wp2_with (at_builtin; refine Hid.out ?_)
            refine Lib.hid ?_
            refine wp_app_str rfl (.tmp 78) (.tmp 84) rfl w3.heap.size _ k4 (l ++ [UInt8.ofNat 32]) rfl HO5.out (digI 10 c) rfl (by omega) hz5 ?_
            intro ao6 k6 cp6 w6 hk6 ho6 hb6
            rw [show l ++ [UInt8.ofNat 32] ++ digI 10 c = [91] ++ jn (intT 10 ⟨false, false, false, false, false, false, false, 0, 0⟩) src (k + 1) from HX.out] at ho6
            have HO6 := Lib.hid ho6
            have HB6 := Lib.hid (HB5.out.trans hb6)
            clear ho6 hb6 HO5 HB5 HX
            go_wp2_with fail
            go_roundw
            case rel => exact ⟨k + 1, k6, _, hlt, by go_num, rfl, by omega, HO6.out, HB6.out⟩
            case measure => simp [intOf]; omega
        · obtain rfl : k = src.length := by omega
          have hn9 : n + 1 ≤ 4294967296 := by omega
          go_wp2_with (at_builtin; refine Hid.out ?_)
          refine Lib.hid ?_
          refine wp_app_one 93 (by decide) rfl (.tmp 86) (.tmp 87) rfl w3.heap.size _ n l rfl HO.out rfl hn9 hzr ?_
          intro ao6 k6 cp6 w6 hk6 ho6 hb6
          have hfin : l ++ [UInt8.ofNat 93] = T := by rw [HL.out, ← HT.out]; rfl
          rw [hfin] at ho6
          have hcv := ho6.txt
          have HB6 := Lib.hid (B3.out.trans ((HBR.out.trans hb6).mono (by omega)))
          clear ho6 hb6 hfin HO HBR HL
          go_wp2_with fail
          go_ret
          exact ⟨by first | rfl | simp, HB6.out⟩
end Go.Proofs.YtohcajfgmgpoeaaDoor
