/-
  writePadding, walked: blanks behind the buffer's text. Conditions: the zero flag is off; the text stays within MaxStringLen.
-/
import Derived.Test.YtohcajfgmgpoeaaDoorFmM
import Derived.Deep.DeepCutAuto
import Derived.Deep.CutBlock
import Derived.Laws.CopyOwn
import Derived.StillTailTactics
namespace Go.Proofs.YtohcajfgmgpoeaaDoor
open Go.RowKit
set_option maxRecDepth 100000
set_option linter.unusedVariables false

/-- what a text put behind the buffer leaves alone: the printer's other cells, and the blocks that are neither the printer's nor its buffer's -/
structure Kp (g : Nat) (v : Value) (w w' : World) : Prop where
  blk : ∀ k, k < w.heap.size → k ≠ g → some k ≠ v.ownBlock → w'.heap[k]? = w.heap[k]?
  own : ∀ i, 0 < i → w'.cell? ⟨g, i, none⟩ = w.cell? ⟨g, i, none⟩
theorem Kp.refl (g : Nat) (v : Value) (w : World) : Kp g v w w := ⟨fun _ _ _ _ => rfl, fun _ _ => rfl⟩
def WPadPost (B g : Nat) (fl : Fl) (v : Value) (l : List UInt8) (w : World) (e : Ending) (w' : World) : Prop :=
  ∃ v', e = .returned (.tuple #[]) ∧ PF B g fl v' l w' ∧ Below B w w' ∧ Kp g v w w'
theorem putMany_snoc (u : Value) : ∀ (vs : List Value) (cs : Array Value) (o : Nat), (putMany cs o vs).setIfInBounds (o + vs.length) u = putMany cs o (vs ++ [u])
  | [], cs, o => rfl
  | v :: r, cs, o => by
    show (putMany (cs.setIfInBounds o v) (o + 1) r).setIfInBounds (o + (r.length + 1)) u = putMany (cs.setIfInBounds o v) (o + 1) (r ++ [u])
    rw [← putMany_snoc u r, show o + (r.length + 1) = o + 1 + r.length by omega]
def fillc (cs : Array Value) (o k : Nat) : Array Value := putMany cs o (List.replicate k (.int .u8 32))
theorem fillc_succ (cs : Array Value) (o k : Nat) : (fillc cs o k).setIfInBounds (o + k) (.int .u8 32) = fillc cs o (k + 1) := by
  have := putMany_snoc (.int .u8 32) (List.replicate k (.int .u8 32)) cs o
  rw [List.length_replicate, ← List.replicate_succ'] at this
  exact this
theorem fillc_take (cs : Array Value) (o k : Nat) (l : List UInt8) (hl : l.length = o) (hk : o + k ≤ cs.size) (ht : cs.toList.take o = u8c l) : (fillc cs o k).toList.take (o + k) = u8c (l ++ rep k 32) := by
  have := putMany_take (List.replicate k (.int .u8 32)) cs o (by simpa using hk)
  rw [List.length_replicate, ht] at this
  unfold fillc
  rw [this, u8c_app]
  congr 1
  unfold u8c rep
  rw [List.map_replicate]
  rfl
/-- memory ready to be filled: block hb with kk cells, of which the first are the buffer's text -/
structure Rdy (B g : Nat) (cs : Array Value) (v : Value) (buf : List UInt8) (w : World) (hb kk : Nat) (cells : Array Value) (wx : World) : Prop where
  blk : Blk wx hb 5 cells
  size : cells.size = kk
  take : cells.toList.take buf.length = u8c buf
  lo : B ≤ hb
  ne : hb ≠ g
  pp : Blk wx g 42 cs
  below : Below B w wx
  keep : ∀ k, k < w.heap.size → k ≠ g → some k ≠ v.ownBlock → wx.heap[k]? = w.heap[k]?
  new : some hb = v.ownBlock ∨ w.heap.size ≤ hb
theorem Rdy.put {B g hb kk j : Nat} {cs cells : Array Value} {v : Value} {buf : List UInt8} {w wx : World} (h : Rdy B g cs v buf w hb kk cells wx) (hj : buf.length ≤ j) (u : Value) : Rdy B g cs v buf w hb kk (cells.setIfInBounds j u) (wx.setCell ⟨hb, j, none⟩ u) := by
  refine ⟨h.blk.put j u, by simpa using h.size, ?_, h.lo, h.ne, h.pp.other (p := ⟨hb, j, none⟩) (fun e => h.ne e.symm) u, h.below.setCell h.lo u, fun k h1 h2 h3 => ?_, h.new⟩
  · rw [← h.take, Array.toList_setIfInBounds, List.take_set_of_le hj]
  · rw [Below.heap_setCell wx ⟨hb, j, none⟩ u k (fun e => by
      have e' : k = hb := e
      rcases h.new with h4 | h4
      · exact h3 (by rw [e']; exact h4)
      · omega)]
    exact h.keep k h1 h2 h3
theorem own_take {w : World} {B g' n cap : Nat} {xs : List Value} (h : w.ownsRow B 5 1 (.slice (some ⟨g', 0, none⟩) n cap) n xs) : ∃ cells, Blk w g' 5 cells ∧ cells.size = cap ∧ cells.toList.take n = xs ∧ B ≤ g' := by
  rcases h.2 with ⟨h0, _⟩ | ⟨g1, cap1, cur, hv, hg, hh, _, _, hs, ht⟩
  · cases h0
  · injection hv with h1 h2 h3
    injection h1 with h1
    injection h1 with h1
    subst h1
    subst h3
    exact ⟨cur, hh, by omega, by rw [Nat.mul_one] at ht; exact ht, hg⟩
theorem fb_el : Tryd.prog.elem 32 = 5 := by kernel_rfl
theorem mkfb (k : Nat) (hk : k ≤ 281474976710656) (w : World) : (Instr.makeSlice 32 (.int .i64 (k : Int)) (.int .i64 (k : Int))).run Tryd.prog w = .ok (.slice (some ⟨w.heap.size, 0, none⟩) k k) (w.alloc (.cells (madeCells #[.int .u8 0] k) 5)) := by
  obtain ⟨i0, hi, hz0, hz1, hz2⟩ := info_parts u8_info
  have h := run_make (P := Tryd.prog) w 32 5 i0 _ Tryd.underlying32 hi hz0 .i64 .i64 k k (by omega) (Int.le_refl _) (by rw [hz2]; omega) (by omega)
  rw [h, hz1]
  simp [Value.cells]
theorem splice_made (k : Nat) (l : List UInt8) (hk : l.length ≤ k) : (splice (madeCells #[.int .u8 0] k).toList 0 (u8c l)).length = k ∧ (splice (madeCells #[.int .u8 0] k).toList 0 (u8c l)).take l.length = u8c l := by
  unfold splice
  have e : (madeCells #[.int .u8 0] k).toList.length = k := by simp [madeCells]
  constructor
  · simp only [List.take_zero, List.nil_append, List.length_append, List.length_drop, e, u8c_len]
    omega
  · simp only [List.take_zero, List.nil_append]
    rw [List.take_append_of_le_length (by rw [u8c_len]; exact Nat.le_refl _), List.take_of_length_le (by rw [u8c_len]; exact Nat.le_refl _)]
/-- the buffer as the printer holds it, once it is filled and stored -/
theorem Rdy.done {B g hb kk m : Nat} {cs cells : Array Value} {v : Value} {buf : List UInt8} {w wx wx0 : World} {fl : Fl} (h : Rdy B g cs v buf w hb kk (fillc cells buf.length m) wx) (hc0 : Rdy B g cs v buf w hb kk cells wx0) (hp : PB B g cs v buf w) (hf : FmtS cs g fl) (hk : buf.length + m ≤ kk) (hm : kk ≤ maxLen) :
    PF B g fl (.slice (some ⟨hb, 0, none⟩) (buf.length + m) kk) (buf ++ rep m 32) (wx.setCell ⟨g, 0, none⟩ (.slice (some ⟨hb, 0, none⟩) (buf.length + m) kk)) ∧ Below B w (wx.setCell ⟨g, 0, none⟩ (.slice (some ⟨hb, 0, none⟩) (buf.length + m) kk)) ∧ Kp g v w (wx.setCell ⟨g, 0, none⟩ (.slice (some ⟨hb, 0, none⟩) (buf.length + m) kk)) := by
  have hlen : (buf ++ rep m 32).length = buf.length + m := by rw [List.length_append, rep_len]
  have hcs : 0 < cs.size := by have := hf.size; omega
  have ht := fillc_take cells buf.length m buf rfl (by rw [hc0.size]; exact hk) hc0.take
  have hown : (wx.setCell ⟨g, 0, none⟩ (.slice (some ⟨hb, 0, none⟩) (buf.length + m) kk)).ownsRow B 5 1 (.slice (some ⟨hb, 0, none⟩) (buf.length + m) kk) (buf ++ rep m 32).length (u8c (buf ++ rep m 32)) := by
    have := own_of (l := buf ++ rep m 32) (cap := kk) (h.blk.other (p := ⟨g, 0, none⟩) h.ne (.slice (some ⟨hb, 0, none⟩) (buf.length + m) kk)) h.lo (by rw [hlen]; exact hk) hm h.size (by rw [hlen]; exact ht)
    rw [hlen] at this ⊢
    exact this
  refine ⟨⟨_, ⟨h.pp.put 0 _, by rw [set_eq hcs], hown, hp.base, ?_, hp.gmax⟩, hf.put0 0 _ (Or.inl rfl)⟩, h.below.setCell hp.base _, ⟨fun k h1 h2 h3 => ?_, fun i hi => ?_⟩⟩
  · exact hp.max.keep hp.gmax (h.below.setCell hp.base _)
  · rw [Below.heap_setCell wx ⟨g, 0, none⟩ _ k (fun e => h2 e)]
    exact h.keep k h1 h2 h3
  · rw [(h.pp.put 0 (.slice (some ⟨hb, 0, none⟩) (buf.length + m) kk)).cell, hp.blk.cell, set_ne (by omega)]
theorem src_pos {w : World} {B : Nat} {oA : Option Addr} {l : List UInt8} (h : SrcAt w B oA l) (h0 : 0 < (u8c l).length) : ∃ ad, oA = some ad ∧ ∀ j v, (u8c l)[j]? = some v → w.cell? (ad.add j) = some v := by
  rw [u8c_len] at h0
  obtain ⟨b, o, rfl, hb, hc⟩ := h.at_ h0
  refine ⟨_, rfl, fun j v hj => ?_⟩
  unfold u8c at hj
  rw [List.getElem?_map] at hj
  rcases hjj : l[j]? with _ | x
  · rw [hjj] at hj
    cases hj
  · rw [hjj] at hj
    have hlt : j < l.length := by
      rcases Nat.lt_or_ge j l.length with h1 | h1
      · exact h1
      · rw [List.getElem?_eq_none h1] at hjj
        cases hjj
    have ea : (⟨b, o, none⟩ : Addr).add j = ⟨b, o + j, none⟩ := by unfold Addr.add; split <;> simp_all
    rw [ea, hc j hlt, ← hj]
    rw [List.getElem?_eq_getElem hlt] at hjj
    injection hjj with hjj
    rw [hjj]
    rfl
set_option maxHeartbeats 4000000 in
theorem wpad_pos (B g : Nat) (fl : Fl) (v : Value) (buf : List UInt8) (m : Nat) (w : World) (h : PF B g fl v buf w) (hz : fl.ze = false) (hm : 0 < m) (hl : buf.length + m ≤ 2147483647) :
    Calls Tryd.prog 26 #[.pointer (some ⟨g, 2, none⟩), .int .i64 (m : Int)] w (WPadPost B g fl v (buf ++ rep m 32) w) := by
  obtain ⟨d0, d2, _, _, _, _, _, _, d9, _, _, _⟩ := h.cells
  rw [hz] at d9
  obtain ⟨cs, hpb, hfs⟩ := h
  obtain ⟨ao, cp, rfl, hcp, hmx⟩ := own_val hpb.own
  have cm : w.cell? ⟨0, 0, none⟩ = some (.int .i64 2147483647) := hpb.max
  obtain ⟨nl, hnl⟩ : ∃ nl : Nat, buf.length + m = nl := ⟨_, rfl⟩
  have hnli : (buf.length : Int) + (m : Int) = (nl : Int) := by omega
  have hgt : decide ((nl : Int) > 2147483647) = false := by simp; omega
  have hm0 : decide ((m : Int) ≤ 0) = false := by simp; omega
  have HPB := Lib.hid hpb
  have HFS := Lib.hid hfs
  have HNL := Lib.hid hnl
  have hml : cp ≤ 9223372036854775807 := by simp only [maxLen] at hmx; omega
  have hgl := hpb.blk.lt
  clear hz hpb hfs hmx hnl
  go_enter Tryd.func26, Tryd.ntmps26
  go_upto_if 30 with fail
  go_cut [4] (fun s4 wx => ∃ (hb ln kk : Nat) (cells : Array Value), s4 = .slice (some ⟨hb, 0, none⟩) ln kk ∧ nl ≤ kk ∧ kk ≤ 9223372036854775807 ∧ Rdy B g cs (.slice ao buf.length cp) buf w hb kk cells wx)
  case first =>
    by_cases hgr : cp < nl
    · have t1 : decide ((nl : Int) > (cp : Int)) = true := by simp; omega
      obtain ⟨kk, hkk⟩ : ∃ kk : Nat, cp * 2 + m = kk := ⟨_, rfl⟩
      have hkki : (cp : Int) * 2 + (m : Int) = (kk : Int) := by omega
      have hmk := fun W => mkfb kk (by omega) W
      have hpa := HPB.out.alloc (.cells (madeCells #[.int .u8 0] kk) 5)
      have d2a : (w.alloc (.cells (madeCells #[.int .u8 0] kk) 5)).cell? ⟨g, 2, none⟩ = some (.pointer (some ⟨g, 0, none⟩)) := by rw [hpa.blk.cell, HFS.out.cb]
      have d0a : (w.alloc (.cells (madeCells #[.int .u8 0] kk) 5)).cell? ⟨g, 0, none⟩ = some (.slice ao buf.length cp) := by rw [hpa.blk.cell, hpa.c0]
      have HPA := Lib.hid hpa
      have HKK := Lib.hid hkk
      have HB := Lib.hid (Blk.new w 5 (madeCells #[.int .u8 0] kk))
      have HSA := Lib.hid (own_srcAt HPA.out.own)
      have hsp := splice_made kk buf (by omega)
      have HSP := Lib.hid hsp
      have HBL : Hid ((w.alloc (.cells (madeCells #[.int .u8 0] kk) 5)).heap[w.heap.size]? = some (.cells (madeCells #[.int .u8 0] kk).toList.toArray 5 (0, 0))) := HB
      have HB0 : Hid (Below w.heap.size w (w.alloc (.cells (madeCells #[.int .u8 0] kk) 5))) := Lib.hid ((Below.refl _ _).alloc (Nat.le_refl _) _)
      have hbz := HPB.out.size
      have hnb := HNL.out
      have hkk1 : nl ≤ kk := by have := HKK.out; omega
      have hkk2 : kk ≤ 9223372036854775807 := by have := HKK.out; omega
      have HC1 : Hid ((u8c buf).length = Nat.min buf.length kk) := Lib.hid (by rw [u8c_len]; exact (Nat.min_eq_left (by omega)).symm)
      have HC2 : Hid (0 < (u8c buf).length → (some ⟨w.heap.size, 0, none⟩ : Option Addr) = some ⟨w.heap.size, 0, none⟩ ∧ ∃ ad, ao = some ad ∧ ∀ j v, (u8c buf)[j]? = some v → (w.alloc (.cells (madeCells #[.int .u8 0] kk) 5)).cell? (ad.add j) = some v) := Lib.hid (fun h => ⟨rfl, src_pos HSA.out h⟩)
      have HC3 : Hid (0 + (u8c buf).length ≤ (madeCells #[.int .u8 0] kk).toList.length) := Lib.hid (by rw [u8c_len]; simp [madeCells]; omega)
      clear hpa hkk hsp d9 cm hnb
      go_wp2_with ((with_reducible refine wpList_copy_splice rfl (.tmp 37) (.tmp 43) 32 32 rfl 5 Tryd.underlying32 (by kernel_rfl) (some ⟨w.heap.size, 0, none⟩) ao kk kk buf.length cp rfl rfl w.heap.size 0 (madeCells #[.int .u8 0] kk).toList 5 HBL.out (u8c buf) HC1.out HC2.out HC3.out (u8c_one buf) w.heap.size w HB0.out (Nat.le_refl _) ?_); intro w2 HG2 hB2; have HB2 := Lib.hid hB2; clear hB2)
      go_meet
      refine ⟨w.heap.size, kk, kk, _, rfl, hkk1, hkk2, ⟨HG2.out, by rw [List.size_toArray]; exact HSP.out.1, HSP.out.2, hbz, Nat.ne_of_gt hgl, HPB.out.blk.same (HB2.out.block g hgl), HB2.out.mono hbz, fun k k1 _ _ => HB2.out.block k k1, Or.inr (Nat.le_refl _)⟩⟩
    · have t1 : decide ((nl : Int) > (cp : Int)) = false := by simp; omega
      have hcp0 : 0 < cp := by have := HNL.out; omega
      obtain ⟨g1, cp1, hv1, hg1⟩ : ∃ g1 cp1, (Value.slice ao buf.length cp) = .slice (some ⟨g1, 0, none⟩) buf.length cp1 ∧ B ≤ g1 := by
        rcases HPB.out.own.2 with ⟨h0, _⟩ | ⟨g1, cap1, cur, hv, hgg, _⟩
        · injection h0 with _ _ h3
          omega
        · exact ⟨g1, cap1, hv, hgg⟩
      injection hv1 with e1 _ e3
      subst e1
      subst e3
      obtain ⟨cells, k1, k2, k3, k4⟩ := own_take HPB.out.own
      have hne := own_tag HPB.out.own HPB.out.blk (by decide)
      have HR : Hid (Rdy B g cs (.slice (some ⟨g1, 0, none⟩) buf.length cp) buf w g1 cp cells w) := Lib.hid ⟨k1, k2, k3, k4, fun e => hne (by rw [e]; rfl), HPB.out.blk, Below.refl _ _, fun _ _ _ _ => rfl, Or.inl rfl⟩
      clear d9 cm k1 k2 k3 k4 hne
      go_wp2_with fail
      go_meet
      exact ⟨g1, buf.length, cp, cells, rfl, by omega, hml, HR.out⟩
  case rest =>
    obtain ⟨hb, ln, kk, cells, rfl, hkk1, hkk2, hR⟩ := hcut
    have d9c : wc.cell? ⟨g, 9, none⟩ = some (.bool false) := by rw [hR.pp.cell, ← HPB.out.blk.cell]; exact d9
    have hnb : nl = buf.length + m := HNL.out.symm
    have hsl := fun W => run_slT 32 fb_el Tryd.underlying32 W hb 0 ln kk buf.length nl (by omega) (by omega) (by omega)
    have hslA := fun W => run_slAT 32 fb_el Tryd.underlying32 W hb 0 ln kk buf.length nl (by omega) (by omega) (by omega)
    rw [show nl - buf.length = m by omega, Nat.zero_add] at hsl hslA
    have hslo := fun W => run_sloT 32 fb_el Tryd.underlying32 W hb 0 ln kk nl (by omega)
    have hsloA := fun W => run_sloAT 32 fb_el Tryd.underlying32 W hb 0 ln kk nl (by omega)
    have HR := Lib.hid hR
    clear hR d9 d0 d2 cm hnb
    go_wp2_with fail
    go_loopw [56] (fun i wr => ∃ j : Nat, j ≤ m ∧ i = .int .i64 (j : Int) ∧ Rdy B g cs (.slice ao buf.length cp) buf w hb kk (fillc cells buf.length j) wr) (fun i _ => m - (intOf i).toNat)
    case atStart => exact ⟨0, Nat.zero_le _, rfl, HR.out⟩
    case round =>
      obtain ⟨j, hj, rfl, hr⟩ := hrel
      by_cases hlt : j < m
      · have hszc : buf.length + j < (fillc cells buf.length j).size := by rw [hr.size]; have := HNL.out; omega
        obtain ⟨u, hu⟩ : ∃ u, (fillc cells buf.length j)[buf.length + j]? = some u := ⟨_, Array.getElem?_eq_getElem hszc⟩
        have c1 : wr.cell? ⟨hb, buf.length + j, none⟩ = some u := by rw [hr.blk.cell, hu]
        have f1 := hr.blk.free (buf.length + j)
        have hput := hr.put (j := buf.length + j) (by omega) (.int .u8 32)
        rw [fillc_succ] at hput
        have HP := Lib.hid hput
        clear hr hu hszc hput HR
        go_wp2_with fail
        go_roundw
        case rel => exact ⟨j + 1, hlt, by go_num, HP.out⟩
        case measure => simp [intOf]; omega
      · obtain rfl : j = m := by omega
        have e2 : wr.cell? ⟨g, 2, none⟩ = some (.pointer (some ⟨g, 0, none⟩)) := by rw [hr.pp.cell, HFS.out.cb]
        have e0 : wr.cell? ⟨g, 0, none⟩ = some (.slice ao buf.length cp) := by rw [hr.pp.cell, HPB.out.c0]
        have f0 := hr.pp.free 0
        have hrd := hr
        have HD := Lib.hid hr
        clear hr hrd d9c hsl hslA
        go_wp2_with fail
        go_still_tail 8, (by kernel_rfl)
        have HDN : Hid (Rdy B g cs (.slice ao buf.length cp) buf w hb kk (fillc cells buf.length j) wr.drew) := Lib.hid ⟨HD.out.blk, HD.out.size, HD.out.take, HD.out.lo, HD.out.ne, HD.out.pp, HD.out.below.drew, HD.out.keep, HD.out.new⟩
        change wpList _ _ _ _ _ wr.drew
        have e0d : wr.drew.cell? ⟨g, 0, none⟩ = some (.slice ao buf.length cp) := e0
        have f0d : wr.drew.frozen? ⟨g, 0, none⟩ = false := f0
        obtain ⟨z1, z2, z3⟩ := HDN.out.done HR.out HPB.out HFS.out (by have := HNL.out; omega) (by simp only [maxLen]; omega)
        rw [HNL.out] at z1 z2 z3
        have HZ := Lib.hid (And.intro z1 (And.intro z2 z3))
        clear z1 z2 z3 HDN HD HR e0 f0
        go_wp2_with fail
        go_end0
        exact ⟨_, rfl, HZ.out.1, HZ.out.2.1, HZ.out.2.2⟩
theorem wpad_any (B g : Nat) (fl : Fl) (v : Value) (buf : List UInt8) (z : Int) (w : World) (h : PF B g fl v buf w) (hz : fl.ze = false) (hb1 : -9223372036854775808 ≤ z) (hl : (buf.length : Int) + z ≤ 2147483647) :
    Calls Tryd.prog 26 #[.pointer (some ⟨g, 2, none⟩), .int .i64 z] w (WPadPost B g fl v (buf ++ rep z.toNat 32) w) := by
  by_cases hp : 0 < z
  · obtain ⟨m, rfl⟩ : ∃ m : Nat, z = (m : Int) := ⟨z.toNat, by omega⟩
    rw [Int.toNat_natCast]
    exact wpad_pos B g fl v buf m w h hz (by omega) (by omega)
  · have H := Lib.hid h
    have e : buf ++ rep z.toNat 32 = buf := by
      rw [show z.toNat = 0 by omega]
      simp [rep]
    rw [e]
    clear h e
    go_enter Tryd.func26, Tryd.ntmps26
    go_wp2_with fail
    go_end0
    exact ⟨v, rfl, H.out, Below.refl _ _, Kp.refl _ _ _⟩
end Go.Proofs.YtohcajfgmgpoeaaDoor
