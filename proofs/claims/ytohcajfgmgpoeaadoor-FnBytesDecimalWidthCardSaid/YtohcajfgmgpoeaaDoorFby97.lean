/-
  fmtBytes at the verbs v and d, and at those it does not know. Conditions: the text stays within MaxStringLen.
-/
import Derived.Test.YtohcajfgmgpoeaaDoorFmI10
import Derived.Test.YtohcajfgmgpoeaaDoorSb97
namespace Go.Proofs.YtohcajfgmgpoeaaDoor
open Go.RowKit
set_option maxRecDepth 100000
set_option linter.unusedVariables false

/-- a list's text up to k: each element's text, blanks between -/
def jn (h : Nat → List UInt8) (src : List UInt8) : Nat → List UInt8
  | 0 => []
  | k + 1 => (jn h src k ++ (if k = 0 then [] else [32])) ++ h (src.getD k 0).toNat
theorem jn_len (h : Nat → List UInt8) (src : List UInt8) (M : Nat) (hM : ∀ c, c < 256 → (h c).length ≤ M) : ∀ k, (jn h src k).length ≤ k * (M + 1)
  | 0 => by simp [jn]
  | k + 1 => by
    have := jn_len h src M hM k
    have := hM (src.getD k 0).toNat (UInt8.toNat_lt _)
    rw [Nat.add_mul, Nat.one_mul]
    simp only [jn, List.length_append]
    split
    · simp only [List.length_nil]
      omega
    · simp only [List.length_cons, List.length_nil]
      omega
theorem intT_len (fl : Fl) (u : Nat) : (intT 10 fl u).length ≤ fl.wid + fl.prec + 24 := by
  have hd := digI_len 10 u
  have hp := precI_le fl
  have hz := zfill_len (precI fl) (digI 10 u)
  unfold intT
  split
  · rw [rep_len]
    omega
  · have h1 : (signI fl (sharpI 10 fl (zfill (precI fl) (digI 10 u)))).length ≤ fl.wid + fl.prec + 21 := by
      have hs : sharpI 10 fl (zfill (precI fl) (digI 10 u)) = zfill (precI fl) (digI 10 u) := by
        unfold sharpI
        rw [if_neg (by rintro ⟨_, h⟩; cases h)]
      rw [hs]
      unfold signI
      split
      · simp only [List.length_cons]
        omega
      · split
        · simp only [List.length_cons]
          omega
        · omega
    generalize signI fl (sharpI 10 fl (zfill (precI fl) (digI 10 u))) = X at h1
    unfold padT
    split
    · split <;> simp only [List.length_append, rep_len] <;> omega
    · omega
def FBPost (B g : Nat) (fl : Fl) (l : List UInt8) (w : World) (e : Ending) (w' : World) : Prop :=
  ∃ v', e = .returned (.tuple #[]) ∧ PF B g fl v' l w' ∧ Below B w w'
set_option maxHeartbeats 8000000 in
theorem fmtBytes_list (B g : Nat) (fl : Fl) (v : Value) (vb : Int) (oA : Option Addr) (cap : Nat) (src : List UInt8) (ts : ByteArray) (w : World) (h : PF B g fl v [] w) (hw : fl.wid ≤ 65536) (hp : fl.prec ≤ 65536) (hsp : fl.sp = false) (hsh : fl.sh = false)
    (hs : SrcAt w B oA src) (hvb : vb = 118 ∨ vb = 100) (hl : src.length * (fl.wid + fl.prec + 25) ≤ 2000000000) :
    Calls Tryd.prog 13 #[.pointer (some ⟨g, 0, none⟩), .slice oA src.length cap, .int .i32 vb, .string ts] w (FBPost B g fl ([91] ++ jn (intT 10 fl) src src.length ++ [93]) w) := by
  obtain ⟨_, d2, _, _, _, _, _, _, _, _, _, d11⟩ := h.cells
  have H := Lib.hid h
  have HS := Lib.hid hs
  have HF := Lib.hid (And.intro hsp hsh)
  have hsl : src.length ≤ 80000000 := by
    have : src.length * 25 ≤ src.length * (fl.wid + fl.prec + 25) := Nat.mul_le_mul_left _ (by omega)
    omega
  have HJ := Lib.hid (fun k (hk : k ≤ src.length) => Nat.le_trans (jn_len (intT 10 fl) src (fl.wid + fl.prec + 24) (fun c _ => intT_len fl c) k) (Nat.le_trans (Nat.mul_le_mul_right _ hk) hl))
  have hB : B ≤ g := by obtain ⟨cs, h1, _⟩ := h; exact h1.base
  have HC0 := Lib.hid (ppByte_any B g fl v [] 91 (by decide) w h (by decide))
  clear h hs hsp hsh hl
  have hvv : (vb == 118) = true ∨ ((vb == 118) = false ∧ (vb == 100) = true) := by
    rcases hvb with rfl | rfl
    · exact Or.inl rfl
    · exact Or.inr ⟨rfl, rfl⟩
  have hv79 : vb ≠ 79 := by omega
  have HV79 := Lib.hid hv79
  clear hvb hv79
  rcases hvv with t1 | ⟨t1, t2⟩
  all_goals
    go_enter Tryd.func13, Tryd.ntmps13
    go_wp2_with fail
    refine HC0.out.mono ?_
    rintro e w2 ⟨v2, rfl, p2, b2⟩
    have P2 : Hid (PF B g fl v2 [91] w2) := Lib.hid p2
    have B2 := Lib.hid b2
    clear p2 b2 d2 d11 H
    go_wp2_with fail
    go_loopw [71] (fun v71 wr => ∃ (k : Nat) (vk : Value), k ≤ src.length ∧ v71 = .int .i64 (k : Int) ∧ PF B g fl vk ([91] ++ jn (intT 10 fl) src k) wr ∧ Below B w wr) (fun v71 _ => src.length - (intOf v71).toNat)
    case atStart => exact ⟨0, v2, Nat.zero_le _, rfl, P2.out, B2.out⟩
    case round =>
      obtain ⟨k, vk, hk, rfl, hpk, hbk⟩ := hrel
      have hjl := HJ.out k hk
      by_cases hlt : k < src.length
      · obtain ⟨b, o, eo, hbB, hcc⟩ := HS.out.at_ (by omega)
        obtain rfl := eo
        have c1 : wr.cell? ⟨b, o + k, none⟩ = some (.int .u8 ((src.getD k 0).toNat : Int)) := by
          rw [(hbk.cell (p := ⟨b, o + k, none⟩) hbB), hcc k hlt]
          simp [List.getD, hlt]
        have hu8 : (src.getD k 0).toNat < 256 := UInt8.toNat_lt _
        obtain ⟨c, hcd⟩ : ∃ c, (src.getD k 0).toNat = c := ⟨_, rfl⟩
        rw [hcd] at c1 hu8
        have HN : Hid (∀ x : List UInt8, x = (if k = 0 then [] else [32]) → ([91] ++ jn (intT 10 fl) src k ++ x) ++ intT 10 fl c = [91] ++ jn (intT 10 fl) src (k + 1)) := Lib.hid (fun x hx => by
          rw [hx, ← hcd]
          simp only [jn, List.append_assoc])
        clear hcd hcc
        by_cases hk0 : k = 0
        · have HPK := Lib.hid hpk
          have HBK := Lib.hid hbk
          have t5 : decide (0 < k) = false := by simp; omega
          have t5b : ¬ 0 < k := by omega
          have HC := Lib.hid (fmtI_any B g fl vk ([91] ++ jn (intT 10 fl) src k) c vb wr hpk hw hp (by omega) HV79.out (by simp only [List.length_append, List.length_cons, List.length_nil]; omega) HF.out.1 HF.out.2)
          have HX := Lib.hid (HN.out [] (by rw [if_pos hk0]))
          rw [List.append_nil] at HX
          clear hpk hbk HN hk0
          go_wp2_with fail
          refine HC.out.mono ?_
          rintro e w4 ⟨v4, rfl, p4, b4⟩
          rw [HX.out] at p4
          have P4 := Lib.hid p4
          have B4 := Lib.hid (HBK.out.trans b4)
          clear p4 b4 HC HX
          go_wp2_with fail
          go_roundw
          case rel => exact ⟨k + 1, v4, hlt, by go_num, P4.out, B4.out⟩
          case measure => simp [intOf]; omega
        · have HPK := Lib.hid hpk
          have HBK := Lib.hid hbk
          have t5 : decide (0 < k) = true := by simp; omega
          have t5b : 0 < k := by omega
          have HCB := Lib.hid (ppByte_any B g fl vk ([91] ++ jn (intT 10 fl) src k) 32 (by decide) wr hpk (by simp only [List.length_append, List.length_cons, List.length_nil]; omega))
          have HX := Lib.hid (HN.out [32] (by rw [if_neg hk0]))
          clear hpk hbk HN hk0
          go_wp2_with fail
          refine HCB.out.mono ?_
          rintro e w3 ⟨v3, rfl, p3, b3⟩
          obtain ⟨_, e2, _⟩ := p3.cells
          have HC := Lib.hid (fmtI_any B g fl v3 ([91] ++ jn (intT 10 fl) src k ++ [32]) c vb w3 p3 hw hp (by omega) HV79.out (by simp only [List.length_append, List.length_cons, List.length_nil]; omega) HF.out.1 HF.out.2)
          have B3 := Lib.hid (HBK.out.trans b3)
          clear p3 b3 HCB
          go_wp2_with fail
          refine HC.out.mono ?_
          rintro e w4 ⟨v4, rfl, p4, b4⟩
          rw [HX.out] at p4
          have P4 := Lib.hid p4
          have B4 := Lib.hid (B3.out.trans b4)
          clear p4 b4 HC HX
          go_wp2_with fail
          go_roundw
          case rel => exact ⟨k + 1, v4, hlt, by go_num, P4.out, B4.out⟩
          case measure => simp [intOf]; omega
      · obtain rfl : k = src.length := by omega
        have HCB := Lib.hid (ppByte_any B g fl vk ([91] ++ jn (intT 10 fl) src src.length) 93 (by decide) wr hpk (by simp only [List.length_append, List.length_cons, List.length_nil]; omega))
        have HBK := Lib.hid hbk
        clear hpk hbk
        go_wp2_with fail
        refine HCB.out.mono ?_
        rintro e w3 ⟨v3, rfl, p3, b3⟩
        have P3 := Lib.hid p3
        have B3 := Lib.hid (HBK.out.trans b3)
        clear p3 b3 HCB
        go_wp2_with fail
        go_end0
        exact ⟨v3, rfl, P3.out, B3.out⟩
set_option maxHeartbeats 1000000 in
theorem fmtBytes_none (B g : Nat) (fl : Fl) (v : Value) (vb : Int) (s : Value) (ts : ByteArray) (w : World) (h : PF B g fl v [] w) (h1 : vb ≠ 118) (h2 : vb ≠ 100) (h3 : vb ≠ 115) (h4 : vb ≠ 120) (h5 : vb ≠ 88) (h6 : vb ≠ 113) :
    Calls Tryd.prog 13 #[.pointer (some ⟨g, 0, none⟩), s, .int .i32 vb, .string ts] w (FBPost B g fl [] w) := by
  have t1 : (vb == 118) = false := by simpa using h1
  have t2 : (vb == 100) = false := by simpa using h2
  have t3 : (vb == 115) = false := by simpa using h3
  have t4 : (vb == 120) = false := by simpa using h4
  have t5 : (vb == 88) = false := by simpa using h5
  have t6 : (vb == 113) = false := by simpa using h6
  have H := Lib.hid h
  clear h h1 h2 h3 h4 h5 h6
  go_enter Tryd.func13, Tryd.ntmps13
  go_wp2_with fail
  go_end0
  exact ⟨v, rfl, H.out, Below.refl _ _⟩
end Go.Proofs.YtohcajfgmgpoeaaDoor
