/-
  The scanner made for the laws of findLineEnd: an identifier of one letter scanned. Conditions: as stated.
-/
import Derived.Test.YthhmkkpginddbaaFmtFle
import Derived.Test.YthhmkkpginddbaaFmtClone140
namespace Go.Proofs.YthhmkkpginddbaaFmt
open Go.RowKit
set_option maxRecDepth 100000
set_option linter.unusedVariables false

theorem stNew_mode (src : List UInt8) (m : Int) : (stNew src m).mode = m := by
  unfold stNew
  split
  · rw [nx_mode, nx_mode]
    rfl
  · rw [nx_mode]
    rfl
theorem stNew_first (src : List UInt8) (hn : 0 < src.length) (ha : bt src 0 < 128) : (stNew src 0).off = 0 ∧ (stNew src 0).ch = (bt src 0 : Int) := by
  have hw := (rn_facts src 0 hn).2.2.2.2.2 ha
  have hr : (st0 0).rd < src.length := hn
  have e : nx src (st0 0) = { nl src.length (st0 0).rd (st0 0) with off := (st0 0).rd, rd := (st0 0).rd + (rn src (st0 0).rd).2, ch := ((rn src (st0 0).rd).1 : Int), ec := (st0 0).ec + (if badc src (st0 0).rd then 1 else 0) } := by
    unfold nx
    rw [if_pos hr]
  have hch : (nx src (st0 0)).ch = (bt src 0 : Int) := by
    rw [e]
    show ((rn src 0).1 : Int) = _
    rw [hw]
  have es : stNew src 0 = nx src (st0 0) := by
    unfold stNew
    rw [if_neg (by rw [hch]; omega)]
  rw [es]
  exact ⟨by rw [e]; rfl, hch⟩
def PrepPost (l : List UInt8) (w : World) (e : Ending) (w' : World) : Prop :=
  ∃ (F : Fix) (t : St), e = .returned (.pointer (some ⟨F.gS, 0, none⟩)) ∧ w.heap.size ≤ F.B ∧ SC F (UInt8.ofNat 120 :: l) t w' ∧ Good (UInt8.ofNat 120 :: l) t ∧ t.off = 1 ∧ t.semi = true ∧ t.ec ≤ 3 ∧ Below w.heap.size w w'
set_option maxHeartbeats 2000000 in
theorem prep_any (b o cap n : Nat) (l : List UInt8) (w : World) (hl : l.length = n) (hn : 1 ≤ n) (hn2 : n ≤ 65536) (hb : b < w.heap.size) (hc : ∀ i (h : i < l.length), w.cell? ⟨b, o + i, none⟩ = some (.int .u8 (l[i].toNat : Int))) (h0 : bt l 0 = 47)
    (htab : Lib.Utf8Tabs 1 2 w) (hg : 1 < w.heap.size ∧ 2 < w.heap.size) (hkw : KwAt w) :
    Calls Tryf.prog 18 #[.slice (some ⟨b, o, none⟩) n cap] w (PrepPost l w) := by
  obtain ⟨src, hsrcd⟩ : ∃ src, src = UInt8.ofNat 120 :: l := ⟨_, rfl⟩
  have hlen : src.length = n + 1 := by rw [hsrcd, ← hl]; rfl
  have hb0 : bt src 0 = 120 := by rw [hsrcd]; rfl
  have hb1 : bt src 1 = 47 := by rw [hsrcd, ← h0]; simp [bt, List.getD]
  have hgd : ∀ i, src.getD (i + 1) 0 = l.getD i 0 := by intro i; rw [hsrcd]; simp [List.getD]
  have hmk : ∀ W, (Instr.makeSlice 22 (.int .i64 ((n : Int) + 1)) (.int .i64 ((n : Int) + 1))).run Tryf.prog W = .ok (.slice (some ⟨W.heap.size, 0, none⟩) (n + 1) (n + 1)) (W.alloc (.cells (madeCells #[.int .u8 0] (n + 1)) 5)) := fun W => cl_make (n + 1) (by omega) W
  have hB1 := (Below.refl w.heap.size w).alloc (Nat.le_refl _) (.cells (madeCells #[.int .u8 0] (n + 1)) 5)
  have hk1 : Blk (w.alloc (.cells (madeCells #[.int .u8 0] (n + 1)) 5)) w.heap.size 5 (clCells src 0) := by
    rw [cl_zero, hlen]
    exact Blk.new w _ _
  have c0 : (w.alloc (.cells (madeCells #[.int .u8 0] (n + 1)) 5)).cell? ⟨w.heap.size, 0, none⟩ = some (.int .u8 0) := by rw [hk1.cell, cl_at src 0 0 (by omega), if_neg (by omega)]
  have f0 := hk1.free 0
  have hk2 := hk1.put 0 (.int .u8 ((src.getD 0 0).toNat : Int))
  rw [cl_put src 0 (by omega)] at hk2
  have hx : (src.getD 0 0).toNat = 120 := hb0
  rw [hx] at hk2
  have hB2 := hB1.setCell (p := ⟨w.heap.size, 0, none⟩) (Nat.le_refl _) (.int .u8 ((120 : Nat) : Int))
  have HK2 := Lib.hid hk2
  have HB2 := Lib.hid hB2
  have HC := Lib.hid hc
  have HL := Lib.hid hl
  have HD := Lib.hid hsrcd
  have HLEN := Lib.hid hlen
  have HGD := Lib.hid hgd
  have H01 : Hid (bt src 0 = 120 ∧ bt src 1 = 47) := Lib.hid ⟨hb0, hb1⟩
  have HT := Lib.hid htab
  have HKW := Lib.hid hkw
  clear hk1 hk2 hB1 hB2 hc hl hsrcd hlen hgd hb0 hb1 hx h0 htab hkw
  generalize hw1 : w.alloc (.cells (madeCells #[.int .u8 0] (n + 1)) 5) = w1 at HK2 HB2 c0 f0
  go_enter Tryf.func18, Tryf.ntmps18
  go_wp2_with fail
  go_loopw [5] (fun i wr => ∃ k : Nat, k ≤ n ∧ i = .int .i64 k ∧ Blk wr w.heap.size 5 (clCells src (k + 1)) ∧ Below w.heap.size w wr) (fun i _ => n - (intOf i).toNat)
  case atStart => exact ⟨0, Nat.zero_le _, rfl, HK2.out, HB2.out⟩
  case round =>
    obtain ⟨k, hk, rfl, hblk, hbel⟩ := hrel
    clear HK2 HB2 c0 f0 hw1 hmk
    by_cases hlt : k < n
    · have hkl : k < l.length := by have := HL.out; omega
      have hks : k + 1 < src.length := by have := HLEN.out; omega
      have c1 : wr.cell? ⟨b, o + k, none⟩ = some (.int .u8 ((src.getD (k + 1) 0).toNat : Int)) := by
        rw [(hbel.cell (p := ⟨b, o + k, none⟩) hb), HC.out k hkl, HGD.out]
        simp [List.getD, hkl]
      have hne : (b == w.heap.size) = false := by simp; omega
      have hu : (src.getD (k + 1) 0).toNat < 256 := UInt8.toNat_lt _
      have c2 : wr.cell? ⟨w.heap.size, k + 1, none⟩ = some (.int .u8 0) := by rw [hblk.cell, cl_at src (k + 1) (k + 1) hks, if_neg (by omega)]
      have hf := hblk.free (k + 1)
      have hset := hblk.put (k + 1) (.int .u8 ((src.getD (k + 1) 0).toNat : Int))
      rw [cl_put src (k + 1) hks] at hset
      have hbel2 : Below w.heap.size w (wr.setCell ⟨w.heap.size, k + 1, none⟩ (.int .u8 ((src.getD (k + 1) 0).toNat : Int))) := hbel.setCell (Nat.le_refl _) _
      generalize (src.getD (k + 1) 0).toNat = z at c1 hu hset hbel2
      have HX := Lib.hid hset
      have HY := Lib.hid hbel2
      have ix : ((k : Int) + 1).toNat = k + 1 := by omega
      clear hset hbel2 hblk hbel
      go_wp2
      go_roundw
      case rel => exact ⟨k + 1, by omega, by go_num, HX.out, HY.out⟩
      case measure => simp [intOf]; omega
    · obtain rfl : k = n := by omega
      have tl : decide ((k : Int) < (k : Int)) = false := by simp
      have hsr : SrcAt wr wr.heap.size (some ⟨w.heap.size, 0, none⟩) src := Or.inr ⟨w.heap.size, 0, rfl, hblk.lt, fun i hi => by
        rw [hblk.cell, Nat.zero_add, cl_at src _ i hi, if_pos (by have := HLEN.out; omega)]
        simp [List.getD, hi]⟩
      have hz := hbel.size
      have HM := Lib.hid (mk_any (some ⟨w.heap.size, 0, none⟩) (k + 1) src wr hsr (tabs_keep HT.out hg.1 hg.2 hbel.block) (by omega) (by have := HLEN.out; omega) (by have := HLEN.out; omega))
      rw [HLEN.out] at HM
      have K1 := Lib.hid (HKW.out.below HKW.out.1 hbel)
      have HBL := Lib.hid hbel
      clear hsr hblk hbel HT HKW
      go_wp2_with (go_at_call 11; refine Hid.out ?_)
      refine Lib.hid ?_
      refine HM.out.mono ?_
      rintro e w3 ⟨Fx, rfl, hFB, hFo, hFc, hs3, hb3⟩
      have hst := stNew_first src (by have := HLEN.out; omega) (by have := H01.out; omega)
      have hrun : RunEnd src (stNew src 0).off ((stNew src 0).off + 1) := by
        rw [hst.1]
        refine ⟨by omega, by have := HLEN.out; omega, fun i i1 i2 => ?_, fun _ => ?_⟩
        · obtain rfl : i = 0 := by omega
          rw [H01.out.1]
          decide
        · show idp (bt src 1) = false
          rw [H01.out.2]
          decide
      have hec0 := stNew_ec src 0
      have HSI := Lib.hid (scanId1_any Fx src (stNew src 0) w3 hs3 (stNew_good src 0) (by rw [hst.2, H01.out.1]; decide) hrun (fun _ => by rw [hst.1]; show bt src 1 < 128; rw [H01.out.2]; omega) (stNew_mode src 0) (K1.out.below K1.out.1 hb3) (by have := K1.out.1; omega) (by omega))
      have HOF := Lib.hid hst.1
      have B3 := Lib.hid (HBL.out.trans (hb3.mono hz))
      clear hst hrun hs3 hb3 HM hFo hFc K1 HBL
      go_wp2_with (go_at_call 33; refine Hid.out ?_)
      refine Lib.hid ?_
      refine HSI.out.mono ?_
      rintro e w4 ⟨t, zz, rfl, hin, hto, hs4, hb4⟩
      rw [HOF.out] at hto
      have hgt : Good src { t with semi := true } := hin.good
      have hec4 : t.ec ≤ 3 := by
        have := hin.ec
        rw [this]
        split <;> omega
      have HF : Hid (PrepPost l w (.returned (.pointer (some ⟨Fx.gS, 0, none⟩))) w4) := Lib.hid ⟨Fx, { t with semi := true }, rfl, by omega, by rw [← HD.out]; exact hs4, by rw [← HD.out]; exact hgt, hto, rfl, hec4, B3.out.trans (hb4.mono (by omega))⟩
      clear hs4 hgt hec4 hto hin hb4 HSI hec0
      go_wp2_with fail
      go_ret
      exact HF.out
end Go.Proofs.YthhmkkpginddbaaFmt
