/-
  The law's own list of characters: how many are bad. Conditions: at most 2^16 bytes.
-/
import Derived.Test.YtamfekpcoppbgaaFmtErrD
import Derived.Maps.AppendAt
namespace Go.Proofs.YtamfekpcoppbgaaFmt
open Go.RowKit
set_option maxRecDepth 100000
set_option linter.unusedVariables false

abbrev Chr := Nat × Nat × Bool
def chC : List Chr → List Value
  | [] => []
  | c :: l => .int .i64 (c.1 : Int) :: .int .i32 (c.2.1 : Int) :: .bool c.2.2 :: chC l
theorem chC_len : ∀ l : List Chr, (chC l).length = l.length * 3
  | [] => rfl
  | c :: l => by
    show (chC l).length + 1 + 1 + 1 = _
    rw [chC_len l, List.length_cons]
    omega
theorem chC_app : ∀ (l : List Chr) (c : Chr), chC (l ++ [c]) = chC l ++ [.int .i64 (c.1 : Int), .int .i32 (c.2.1 : Int), .bool c.2.2]
  | [], _ => rfl
  | d :: l, c => by
    show _ :: _ :: _ :: chC (l ++ [c]) = _
    rw [chC_app l c]
    rfl
theorem chC_at : ∀ (l : List Chr) (k : Nat), k < l.length → (chC l)[3 * k + 2]? = some (.bool (l.getD k (0, 0, false)).2.2)
  | [], k, h => absurd h (Nat.not_lt_zero _)
  | d :: l, 0, _ => rfl
  | d :: l, k + 1, h => by
    rw [show 3 * (k + 1) + 2 = (3 * k + 2) + 1 + 1 + 1 by omega]
    show (chC l)[3 * k + 2]? = _
    rw [chC_at l k (by simpa using h)]
    rfl
def badN : List Chr → Nat
  | [] => 0
  | c :: l => (if c.2.2 then 1 else 0) + badN l
theorem badN_app : ∀ (l : List Chr) (c : Chr), badN (l ++ [c]) = badN l + (if c.2.2 then 1 else 0)
  | [], c => by simp [badN]
  | d :: l, c => by
    show _ + badN (l ++ [c]) = _ + badN l + _
    rw [badN_app l c]
    omega
theorem zc_info : (Tryf.prog.info? 50).map (fun i => (i.zero, i.size, i.bytes)) = some (some (.agg #[.int .i64 0, .int .i32 0, .bool false]), 3, 16) := by kernel_rfl
theorem zc_make (n : Nat) (hn : n ≤ 1048576) (w : World) : (Instr.makeSlice 47 (.int .i64 0) (.int .i64 (n : Int))).run Tryf.prog w = .ok (.slice (some ⟨w.heap.size, 0, none⟩) 0 n) (w.alloc (.cells (madeCells #[.int .i64 0, .int .i32 0, .bool false] (n * 3)) 50)) := by
  obtain ⟨i0, hi, hz0, hz1, hz2⟩ := info_parts zc_info
  have h := run_make (P := Tryf.prog) w 47 50 i0 _ Tryf.underlying47 hi hz0 .i64 .i64 0 (n : Int) (by omega) (by omega) (by rw [hz2]; omega) (by omega)
  rw [h, hz1]
  simp [Value.cells]
theorem zc_own0 {w : World} {B g k : Nat} (hb : Blk w g 50 (madeCells #[.int .i64 0, .int .i32 0, .bool false] (k * 3))) (hB : B ≤ g) (hk : k ≤ 1048576) : w.ownsRow B 50 3 (.slice (some ⟨g, 0, none⟩) 0 k) 0 (chC []) :=
  ⟨by simp [chC], Or.inr ⟨g, k, _, rfl, hB, hb, Nat.zero_le _, by simp [maxLen]; omega, by simp [size_madeCells], by simp [chC]⟩⟩
/-- append(out, zzChar{..}) -/
theorem wp_app_chr {w : World} {ops : Array Oper} {rest : List Oper} {o : Oper} {a : Act} {Q : Exit → Act → World → Prop} (c : Chr) (hgd : o.guard = none) (s x : Operand)
    (ho : o.op = .call { callee := .builtin .append, args := #[s, x], argTypes := #[47, 47] })
    (B : Nat) (v : Value) (l : List Chr) (hs : a.eval s = v) (hown : w.ownsRow B 50 3 v l.length (chC l)) (hx : a.eval x = .slice (some ⟨w.heap.size, 0, none⟩) 1 1)
    (hlen : l.length ≤ 1048576) (hB : B ≤ w.heap.size)
    (h : ∀ g cp w', B ≤ g → g < w'.heap.size → w'.ownsRow B 50 3 (.slice (some ⟨g, 0, none⟩) (l.length + 1) cp) (l ++ [c]).length (chC (l ++ [c])) → Below B w w' → wpList Tryf.prog ops Q rest (a.put o.dst (.slice (some ⟨g, 0, none⟩) (l.length + 1) cp)) w') : wpList Tryf.prog ops Q (o :: rest) a (w.alloc (.cells #[.int .i64 (c.1 : Int), .int .i32 (c.2.1 : Int), .bool c.2.2] 50)) := by
  obtain ⟨i0, hii, hy0, hy1, hy2⟩ := info_parts zc_info
  refine wpList_append_own _ hgd s x 47 ho B 50 i0 (.agg #[.int .i64 0, .int .i32 0, .bool false]) 3 16 Tryf.underlying47 hii hy0 hy1 hy2 rfl (by decide) v l.length (chC l) hs (hown.alloc _) ⟨w.heap.size, 0, none⟩ 1 1 [.int .i64 (c.1 : Int), .int .i32 (c.2.1 : Int), .bool c.2.2] hx rfl ?_ ?_ (by simp only [maxLen]; omega) (by omega) (by simp; omega) ?_
  · intro j u hj
    have ea : (⟨w.heap.size, 0, none⟩ : Addr).add j = ⟨w.heap.size, j, none⟩ := by unfold Addr.add; split <;> simp_all
    rw [ea, (Blk.new w _ _).cell]
    simpa using hj
  · intro u hu
    simp only [List.mem_cons, List.not_mem_nil, or_false] at hu
    rcases hu with rfl | rfl | rfl <;> rfl
  · intro v' w' hown' hgrow _
    have hlt : B ≤ w.heap.size := hB
    have hb : Below B w w' := by
      have h1 := (Below.refl B w).alloc hB (.cells #[.int .i64 (c.1 : Int), .int .i32 (c.2.1 : Int), .bool c.2.2] 50)
      refine h1.trans ⟨hgrow.os, hgrow.tape, hgrow.output, hgrow.size, fun k hk => hgrow.block k (by simp; omega) ?_⟩
      rcases hown.2 with ⟨rfl, _⟩ | ⟨g, cap, cur, rfl, hg, _⟩
      · simp [Value.ownBlock]
      · simp [Value.ownBlock]
        omega
    rcases hown'.2 with ⟨_, h0⟩ | ⟨g, cap, cur, rfl, hg, hh, _⟩
    · omega
    · refine h g cap w' hg (Blk.lt (t := 50) hh) ?_ hb
      rw [chC_app, List.length_append]
      exact hown'
def CharsPost (src : List UInt8) (w : World) (e : Ending) (w' : World) : Prop :=
  ∃ (g cp : Nat) (l : List Chr), e = .returned (.slice (some ⟨g, 0, none⟩) l.length cp) ∧ w.heap.size ≤ g ∧ g < w'.heap.size ∧ l.length ≤ src.length ∧ badN l = rem src 0 ∧ (∀ k, k < l.length → w'.cell? ⟨g, 3 * k + 2, none⟩ = some (.bool (l.getD k (0, 0, false)).2.2)) ∧ Below w.heap.size w w'
theorem own_cells3 {w : World} {B g cp n : Nat} {l : List Chr} (h : w.ownsRow B 50 3 (.slice (some ⟨g, 0, none⟩) n cp) n (chC l)) (k : Nat) (hk : k < l.length) : w.cell? ⟨g, 3 * k + 2, none⟩ = some (.bool (l.getD k (0, 0, false)).2.2) := by
  have := h.cells (g := g) rfl _ _ (chC_at l k hk)
  have ea : (⟨g, 0, none⟩ : Addr).add (3 * k + 2) = ⟨g, 3 * k + 2, none⟩ := by unfold Addr.add; split <;> simp_all
  rw [ea] at this
  exact this
theorem zzdec_any (oA : Option Addr) (cap : Nat) (src : List UInt8) (i : Nat) (w : World) (hsrc : SrcAt w w.heap.size oA src) (hi : i < src.length) (hn : src.length ≤ 1048576) :
    Calls Tryf.prog 50 #[.slice oA src.length cap, .int .i64 (i : Int)] w (DecPost2 (rn src i) w) := by
  obtain ⟨b, o, rfl, hb, hc⟩ := hsrc.at_ (by omega)
  have at_ : ∀ j, j < src.length → w.cell? ⟨b, o + j, none⟩ = some (.int .u8 (bt src j : Int)) := by
    intro j hj
    rw [hc j hj]
    unfold bt
    simp [List.getD, hj]
  exact dec_all b o cap src.length i _ _ _ _ w hi hn (bt_lt _ _) (bt_lt _ _) (bt_lt _ _) (bt_lt _ _) (at_ i hi) (fun h => at_ _ h) (fun h => at_ _ h) (fun h => at_ _ h)
set_option maxHeartbeats 2000000 in
theorem chars_any (oA : Option Addr) (cap : Nat) (src : List UInt8) (w : World) (hsrc : SrcAt w w.heap.size oA src) (hn : src.length ≤ 65536) :
    Calls Tryf.prog 26 #[.slice oA src.length cap] w (CharsPost src w) := by
  have hmk := fun W => zc_make src.length (by omega) W
  have HO := Lib.hid (zc_own0 (Blk.new w 50 (madeCells #[.int .i64 0, .int .i32 0, .bool false] (src.length * 3))) (Nat.le_refl _) (by omega))
  have HB := Lib.hid ((Below.refl w.heap.size w).alloc (Nat.le_refl _) (.cells (madeCells #[.int .i64 0, .int .i32 0, .bool false] (src.length * 3)) 50))
  have HS := Lib.hid hsrc
  clear hsrc
  go_enter Tryf.func26, Tryf.ntmps26
  go_wp2_with fail
  clear hmk
  go_loopw [3, 4] (fun v3 v4 wr => ∃ (i cp : Nat) (g : Nat) (l : List Chr), v3 = .slice (some ⟨g, 0, none⟩) l.length cp ∧ v4 = .int .i64 (i : Int) ∧ i ≤ src.length ∧ l.length ≤ i ∧ badN l + rem src i = rem src 0 ∧ w.heap.size ≤ g ∧ g < wr.heap.size ∧ wr.ownsRow w.heap.size 50 3 (.slice (some ⟨g, 0, none⟩) l.length cp) l.length (chC l) ∧ Below w.heap.size w wr) (fun _ v4 _ => src.length - (intOf v4).toNat)
  case atStart => exact ⟨0, src.length, w.heap.size, [], rfl, rfl, Nat.zero_le _, Nat.zero_le _, by simp [badN], Nat.le_refl _, by simp, HO.out, HB.out⟩
  case round =>
    obtain ⟨i, cp, g, l, rfl, rfl, hi, hl, hbn, hg, hgw, ho, hb⟩ := hrel
    clear HO HB
    by_cases hlt : i < src.length
    · have hz := hb.size
      have HD := Lib.hid (zzdec_any oA cap src i wr (((HS.out).keep hb.block).more (by omega)) hlt (by omega))
      have hw := rn_facts src i hlt
      have hrs := rem_step hlt
      unfold badc at hrs
      obtain ⟨r, hr⟩ : ∃ r, (rn src i).1 = r := ⟨_, rfl⟩
      obtain ⟨x, hx⟩ : ∃ x, (rn src i).2 = x := ⟨_, rfl⟩
      unfold DecPost2 at HD
      rw [hr, hx] at HD
      rw [hr, hx] at hrs
      rw [hx] at hw
      obtain ⟨hw1, hw2, hw3, hw4, _, _⟩ := hw
      rw [hr] at hw4
      have HO := Lib.hid ho
      have HB := Lib.hid hb
      have HRS := Lib.hid hrs
      have HBN := Lib.hid hbn
      clear ho hb hrs hbn hr hx
      go_wp2_with (go_at_call 50; refine Hid.out ?_)
      refine Lib.hid ?_
      refine HD.out.mono ?_
      rintro e w2 ⟨rfl, rfl⟩
      clear HD
      by_cases hbm : i = 0 ∧ r = 65279
      · obtain ⟨rfl, rfl⟩ := hbm
        have HN : Hid (badN l + rem src x = rem src 0) := Lib.hid (by
          have h1 := HRS.out
          have h2 := HBN.out
          rw [if_neg (by simp), Nat.zero_add, Nat.zero_add] at h1
          omega)
        clear HRS HBN hw4
        go_wp2_with fail
        go_roundw
        case rel => exact ⟨x, cp, g, l, rfl, by first | rfl | go_num, by omega, by omega, HN.out, hg, hgw, HO.out, HB.out⟩
        case measure => simp [intOf]; omega
      go_upto_region 5 with fail
      go_cut [21, 22, 23, 24, 25, 26] (fun v21 v22 v23 v24 v25 v26 wx => v26 = .bool false ∧ wr = wx)
      case first =>
        by_cases h0 : i = 0
        · have tr : ((r : Int) == 65279) = false := by simp; omega
          have t0 : ((i : Int) == 0) = true := by simp; omega
          clear h0 hbm
          go_wp2_with fail
          go_meet
          exact ⟨rfl, rfl⟩
        · have t0 : ((i : Int) == 0) = false := by simp; omega
          clear hbm
          go_wp2_with fail
          go_meet
          exact ⟨rfl, rfl⟩
      case rest =>
      obtain ⟨rfl, rfl⟩ := hcut
      go_upto_region 7 with fail
      obtain ⟨bd, hbd⟩ : ∃ bd, decide (r = 0 ∨ (r = 65533 ∧ x = 1) ∨ (r = 65279 ∧ 0 < i)) = bd := ⟨_, rfl⟩
      have HBD := Lib.hid hbd
      clear hbd
      go_cut [7, 30, 31, 32, 33, 34, 35, 36, 37, 38, 39, 40, 41, 42, 43] (fun v7 v30 v31 v32 v33 v34 v35 v36 v37 v38 v39 v40 v41 v42 v43 wx => v7 = .bool bd ∧ wr = wx)
      case first =>
        by_cases hr0 : r = 0
        · have E : Hid (bd = true) := Lib.hid (by rw [← HBD.out]; exact decide_eq_true (Or.inl hr0))
          have t0 : ((r : Int) == 0) = true := by simp; omega
          clear hr0 hbm
          go_wp2_with fail
          go_meet
          exact ⟨by rw [E.out], rfl⟩
        have t0 : ((r : Int) == 0) = false := by simp; omega
        by_cases hr1 : r = 65533
        · have t1 : ((r : Int) == 65533) = true := by simp; omega
          by_cases hx1 : x = 1
          · have E : Hid (bd = true) := Lib.hid (by rw [← HBD.out]; exact decide_eq_true (Or.inr (Or.inl ⟨hr1, hx1⟩)))
            have t2 : ((x : Int) == 1) = true := by simp; omega
            clear hr0 hbm hr1 hx1
            go_wp2_with fail
            go_meet
            exact ⟨by rw [E.out], rfl⟩
          · have E : Hid (bd = false) := Lib.hid (by rw [← HBD.out]; exact decide_eq_false (by omega))
            have t2 : ((x : Int) == 1) = false := by simp; omega
            have t3 : ((r : Int) == 65279) = false := by simp; omega
            clear hr0 hbm hr1 hx1
            go_wp2_with fail
            go_meet
            exact ⟨by rw [E.out], rfl⟩
        have t1 : ((r : Int) == 65533) = false := by simp; omega
        by_cases hr2 : r = 65279
        · have E : Hid (bd = true) := Lib.hid (by rw [← HBD.out]; exact decide_eq_true (Or.inr (Or.inr ⟨hr2, by omega⟩)))
          have t3 : ((r : Int) == 65279) = true := by simp; omega
          clear hr0 hbm hr1 hr2
          go_wp2_with fail
          go_meet
          exact ⟨by rw [E.out], rfl⟩
        · have E : Hid (bd = false) := Lib.hid (by rw [← HBD.out]; exact decide_eq_false (by omega))
          have t3 : ((r : Int) == 65279) = false := by simp; omega
          clear hr0 hbm hr1 hr2
          go_wp2_with fail
          go_meet
          exact ⟨by rw [E.out], rfl⟩
      case rest =>
      obtain ⟨rfl, rfl⟩ := hcut
      have HN : Hid (badN (l ++ [(i, r, bd)]) + rem src (i + x) = rem src 0) := Lib.hid (by
        have h1 := HRS.out
        have h2 := HBN.out
        rw [HBD.out] at h1
        rw [badN_app]
        show badN l + (if bd = true then 1 else 0) + rem src (i + x) = rem src 0
        omega)
      clear HRS HBN HBD hbm
      go_wp2_with (at_builtin; refine Hid.out ?_)
      refine Lib.hid ?_
      refine wp_app_chr (i, r, bd) rfl (.tmp 44) (.tmp 49) rfl w.heap.size _ l rfl HO.out rfl (by omega) hz ?_
      intro g2 cp2 w3 hg2 hgw2 ho2 hb2
      have HO2 := Lib.hid ho2
      have HB2 := Lib.hid (HB.out.trans hb2)
      have hll : (l ++ [(i, r, bd)]).length = l.length + 1 := by simp
      clear ho2 hb2 HO HB
      go_wp2_with fail
      go_roundw
      case rel => exact ⟨i + x, cp2, g2, l ++ [(i, r, bd)], by rw [hll], by go_num, by omega, by omega, HN.out, hg2, hgw2, by rw [hll] at HO2 ⊢; exact HO2.out, HB2.out⟩
      case measure => simp [intOf]; omega
    · obtain rfl : i = src.length := by omega
      have HF := Lib.hid (fun k hk => own_cells3 ho k hk)
      have HB := Lib.hid hb
      have HN : Hid (badN l = rem src 0) := Lib.hid (by rw [rem_end (Nat.le_refl _)] at hbn; omega)
      clear ho hb hbn
      go_wp2
      go_ret
      exact ⟨g, cp, l, rfl, hg, hgw, hl, HN.out, HF.out, HB.out⟩
end Go.Proofs.YtamfekpcoppbgaaFmt
