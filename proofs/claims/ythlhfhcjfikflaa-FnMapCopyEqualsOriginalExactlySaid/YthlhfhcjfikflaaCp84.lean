/-
  Copy, Equals, IsFalsy and TypeName of maps of Ints. Conditions: as stated.
-/
import Derived.Test.YthlhfhcjfikflaaBd84
namespace Go.Proofs.Ythlhfhcjfikflaa
open Go.RowKit Go.Maps Go.WideMaps
set_option maxRecDepth 100000
set_option linter.unusedVariables false

theorem ta_int (W : World) (a : Option Addr) : (Instr.typeAssert (.iface 46 (.pointer a)) 38 46 true).run Try.prog W = .ok (.tuple #[.pointer a, .bool true]) W := by kernel_rfl
theorem ta_nil (W : World) : (Instr.typeAssert .nilIface 38 46 true).run Try.prog W = .ok (.tuple #[.pointer none, .bool false]) W := by kernel_rfl
theorem ta_map (W : World) (a : Option Addr) : (Instr.typeAssert (.iface 29 (.pointer a)) 38 29 true).run Try.prog W = .ok (.tuple #[.pointer a, .bool true]) W := by kernel_rfl
theorem ta_imm (W : World) (a : Option Addr) : (Instr.typeAssert (.iface 40 (.pointer a)) 38 40 true).run Try.prog W = .ok (.tuple #[.pointer a, .bool true]) W := by kernel_rfl
theorem ta_imm_map (W : World) (a : Option Addr) : (Instr.typeAssert (.iface 40 (.pointer a)) 38 29 true).run Try.prog W = .ok (.tuple #[.pointer none, .bool false]) W := by kernel_rfl
set_option maxHeartbeats 400000 in
theorem intCopy_any (p : Nat) (x : Int) (w : World) (h1 : w.cell? ⟨p, 0, none⟩ = some (.int .i64 x)) :
    Calls Try.prog 49 #[.pointer (some ⟨p, 0, none⟩)] w fun e w' => e = .returned (.iface 46 (.pointer (some ⟨w.heap.size, 0, none⟩))) ∧ w' = w.alloc (.cells #[.int .i64 x] 48) := by
  go_enter Try.func49, Try.ntmps49
  go_wp2
  go_ret
  exact ⟨rfl, rfl⟩
set_option maxHeartbeats 1000000 in
theorem intEq_any (p q : Nat) (x y : Int) (w : World) (h1 : w.cell? ⟨p, 0, none⟩ = some (.int .i64 x)) (h2 : w.cell? ⟨q, 0, none⟩ = some (.int .i64 y)) :
    Calls Try.prog 50 #[.pointer (some ⟨p, 0, none⟩), .iface 46 (.pointer (some ⟨q, 0, none⟩))] w fun e w' => e = .returned (.bool (x == y)) ∧ ∃ n, w' = w.drewN n := by
  have ta := ta_int
  go_enter Try.func50, Try.ntmps50
  go_wp2
  go_quiet (fail)
  go_wp2
  go_ret
  exact ⟨rfl, _, rfl⟩
set_option maxHeartbeats 1000000 in
theorem intEq_nil (p : Nat) (w : World) :
    Calls Try.prog 50 #[.pointer (some ⟨p, 0, none⟩), .nilIface] w fun e w' => e = .returned (.bool false) ∧ w = w' := by
  have ta := ta_nil
  go_enter Try.func50, Try.ntmps50
  go_wp2
  go_ret
  exact ⟨rfl, rfl⟩
theorem nil_eq (a : Addr) (w : World) : (nilAhead 189 46 (.pointer (some a)) "Equals").run Try.prog w = .ok (some false) w := by kernel_rfl
theorem method_eq (a : Addr) (w : World) : (method 189 46 (.pointer (some a)) "Equals").run Try.prog w = .ok (50, .pointer (some a)) w := by kernel_rfl
theorem nil_cp (a : Addr) (w : World) : (nilAhead 189 46 (.pointer (some a)) "Copy").run Try.prog w = .ok (some false) w := by kernel_rfl
theorem method_cp (a : Addr) (w : World) : (method 189 46 (.pointer (some a)) "Copy").run Try.prog w = .ok (49, .pointer (some a)) w := by kernel_rfl
theorem nil_meq (a : Addr) (w : World) : (nilAhead 189 29 (.pointer (some a)) "Equals").run Try.prog w = .ok (some false) w := by kernel_rfl
theorem method_meq (a : Addr) (w : World) : (method 189 29 (.pointer (some a)) "Equals").run Try.prog w = .ok (17, .pointer (some a)) w := by kernel_rfl
theorem method_mtn (a : Addr) (w : World) : (method 189 29 (.pointer (some a)) "TypeName").run Try.prog w = .ok (12, .pointer (some a)) w := by kernel_rfl
theorem method_mfal (a : Addr) (w : World) : (method 189 29 (.pointer (some a)) "IsFalsy").run Try.prog w = .ok (36, .pointer (some a)) w := by kernel_rfl
set_option maxHeartbeats 400000 in
theorem mtn_any (v : Value) (w : World) : Calls Try.prog 12 #[v] w fun e w' => e = .returned (.string ⟨#[109, 97, 112]⟩) ∧ w = w' := by
  go_enter Try.func12, Try.ntmps12
  go_wp2
  go_ret
  exact ⟨rfl, rfl⟩
set_option maxHeartbeats 400000 in
theorem imtn_any (v : Value) (w : World) : Calls Try.prog 14 #[v] w fun e w' => e = .returned (.string ⟨#[105, 109, 109, 117, 116, 97, 98, 108, 101, 45, 109, 97, 112]⟩) ∧ w = w' := by
  go_enter Try.func14, Try.ntmps14
  go_wp2
  go_ret
  exact ⟨rfl, rfl⟩
set_option maxHeartbeats 400000 in
theorem mfal_any (a : Nat) (v : Value) (s : Nat) (f : MF) (w : World) (ha : w.cell? ⟨a, 0, none⟩ = some v) (hv : MapS w v s f) : Calls Try.prog 36 #[.pointer (some ⟨a, 0, none⟩)] w fun e w' => e = .returned (.bool (decide (s = 0))) ∧ w = w' := by
  have hb : decide (s = 0) = ((s : Int) == 0) := by
    rw [Bool.eq_iff_iff]
    simp
  rw [hb]
  rcases hv with ⟨rfl, rfl, _⟩ | ⟨b, n, D, rfl, _, rfl, hmi⟩
  · have hl := fun ty => Maps.len_nil (P := Try.prog) (w := w) Try.underlying30 ty
    go_enter Try.func36, Try.ntmps36
    go_wp2
    go_ret
    exact ⟨rfl, rfl⟩
  · have hl := fun ty => hmi.own.len Try.underlying30 ty
    clear hb hmi
    go_enter Try.func36, Try.ntmps36
    go_wp2
    go_ret
    exact ⟨rfl, rfl⟩

def CopyPost (f : MF) (w : World) (e : Ending) (w' : World) : Prop :=
  ∃ p b n D, e = .returned (.iface 29 (.pointer (some ⟨p, 0, none⟩))) ∧ Blk w' p 35 #[.map (some b)] ∧ n ≤ 65537 ∧ MI w' b n D f ∧ Below w.heap.size w w'
theorem CopyPost.mk {f : MF} {w w' : World} {b n : Nat} {D : DataW Unit} (h : MI w' b n D f) (hn : n ≤ 65537) (hb : Below w.heap.size w w') : CopyPost f w (.returned (.iface 29 (.pointer (some ⟨w'.heap.size, 0, none⟩)))) (w'.alloc (.cells #[.map (some b)] 35)) :=
  ⟨_, b, n, D, rfl, Blk.new w' _ _, hn, h.below ((Below.refl _ _).alloc (Nat.le_refl _) _), hb.alloc hb.size _⟩

set_option maxHeartbeats 4000000 in
theorem mapCopy_own (a b n : Nat) (D : DataW Unit) (f : MF) (w : World) (ha : w.cell? ⟨a, 0, none⟩ = some (.map (some b))) (hlt : a < w.heap.size) (hn : n ≤ 65537) (hmi : MI w b n D f) :
    Calls Try.prog 13 #[.pointer (some ⟨a, 0, none⟩)] w (CopyPost f w) := by
  have hmm := @run_makeMap Try.prog
  have hbl := hmi.own.lt
  have e1 : (w.alloc (.map #[] 0)).heap.size = w.heap.size + 1 := by simp
  have ha2 : (w.alloc (.map #[] 0)).cell? ⟨a, 0, none⟩ = some (.map (some b)) := (World.cell?_of_block (w := w) (a := ⟨a, 0, none⟩) (Below.heap_alloc w _ a hlt)).trans ha
  have hsz := hmi.own.size_le
  have HM := Lib.hid hmi
  clear hmi
  have hme := method_cp
  have hna := nil_cp
  go_enter Try.func13, Try.ntmps13
  go_wp2_with (at_range; refine wpList_range_own _ rfl _ 30 rfl 9 38 lawS Try.underlying30 _ b n D rfl (HM.out.own.alloc _) ?_; intro w0 hrg0 hg0 hs0)
  go_frame
  rw [e1] at hrg0 hs0 ⊢
  clear e1 ha2 ha
  go_loopw [4] (fun _ wr => ∃ (left : Lit → Bool) (cnt : Nat) (Dout : DataW Unit), wr.ranges Try.prog 9 (ptrElem 46) b (w.heap.size + 1) n D left cnt ∧ cnt ≤ size D ∧
      MI wr w.heap.size (size D - cnt) Dout (fun l => if left l = true then none else f l) ∧ Below w.heap.size w wr)
    (fun _ wr => wr.rangeLeft b (w.heap.size + 1))
  case atStart =>
    refine ⟨_, _, .map [], hrg0, Nat.le_refl _, ?_, ((Below.refl _ _).alloc (Nat.le_refl _) _).grown hg0 (by simp) (fun j hj => by cases hj)⟩
    rw [copyF_start HM.out.dom]
    exact ((MapI.made w).kept hg0 (by simp) (fun r e => by cases e)).mono (Nat.zero_le _)
  case round =>
    obtain ⟨left, cnt, Dout, hrg, hcs, hout, hnx⟩ := hrel
    clear hrg0 hg0 hs0 hmm
    go_wp2_with (at_next; refine wpList_next_ptr _ rfl _ rfl b (w.heap.size + 1) n D left cnt rfl hrg ?_ ?_)
    · intro hc0 hl0
      obtain ⟨De, hDe⟩ := copy_end ⟨⟨_, hout⟩⟩ hl0
      clear hrg hout
      have HD := Lib.hid hDe
      have HX := Lib.hid hnx
      clear hDe hnx hl0
      subst hc0
      go_wp2_with fail
      go_ret
      exact CopyPost.mk HD.out (by omega) HX.out
    · intro l g w1 cnt1 hll hlx hat hrg1 hlt1 hg1 hs1 hen
      obtain ⟨v, hfv, hblk⟩ := (HM.out.below hnx).at_ hat
      have hblk1 : Blk w1 g 48 #[.int .i64 v] := hblk.same (hg1.block g hblk.lt (fun e => iter_no_cells hrg g e.symm _ _ _ hblk))
      have hc1 : w1.cell? ⟨g, 0, none⟩ = some (.int .i64 v) := by rw [hblk1.cell]; rfl
      have hout1 := hout.kept hg1 (by simp) (iter_no_cells hrg)
      have hn1 := hnx.grown hg1 hnx.size (fun j hj => by cases hj; exact Nat.le_succ _)
      have HOUT := Lib.hid (hout1.below ((Below.refl w1.heap.size w1).alloc (Nat.le_refl _) (.cells #[.int .i64 v] 48)))
      have HRG := Lib.hid (hrg1.alloc (.cells #[.int .i64 v] 48))
      have HI := Lib.hid (Blk.new w1 48 #[.int .i64 v])
      have HNX := Lib.hid (hn1.alloc hn1.size (.cells #[.int .i64 v] 48))
      have HL := Lib.hid hrg.left_eq
      have HCF := Lib.hid (copyF_step (f := f) (left := left) (kl := .string l) trivial hfv)
      have HC := Lib.hid (intCopy_any g v w1 hc1)
      have hbl2 := hnx.size
      clear hrg hout hrg1 hout1 hg1 hn1 hblk hblk1 hat hlx hnx hfv hs1
      go_wp2_with first
        | (go_at_call 49; refine HC.out.mono ?_; rintro e w' ⟨rfl, rfl⟩)
        | (at_mapUpdate; refine wpList_mapUpdate_ptr _ rfl _ _ _ rfl w.heap.size _ _ rfl HOUT.out.own (by unfold maxLen; omega) l hll w1.heap.size rfl rfl ?_; intro w2 hout2 hg2; go_frame)
      have hrg2 := HRG.out.kept hg2 (fun e => by have := Option.some.inj e; omega) (fun e => by have := Option.some.inj e; omega)
      have hN := HOUT.out.put (v := v) hout2 hg2 trivial HI.out
      rw [HCF.out] at hN
      have hB := HNX.out.grown hg2 (by have := HNX.out.size; exact this) (fun j hj => by cases hj; exact Nat.le_refl _)
      go_roundw
      case rel => exact ⟨_, cnt1, _, hrg2, by omega, hN.mono (by omega), hB⟩
      case measure => rw [hrg2.left_eq, HL.out]; exact hlt1
set_option maxHeartbeats 2000000 in
theorem mapCopy_nil (a : Nat) (f : MF) (hf : ∀ l, f l = none) (w : World) (ha : w.cell? ⟨a, 0, none⟩ = some (.map none)) (hlt : a < w.heap.size) :
    Calls Try.prog 13 #[.pointer (some ⟨a, 0, none⟩)] w (CopyPost f w) := by
  obtain rfl : f = fun _ => none := funext hf
  have hmm := @run_makeMap Try.prog
  have hrg := run_range_nilMap (P := Try.prog) (w.alloc (.map #[] 0)) 30 9 38 Try.underlying30
  have hnx : ∀ ty, (Instr.next (.pointer (some ⟨(w.alloc (.map #[] 0)).heap.size, 0, none⟩)) false ty).run Try.prog ((w.alloc (.map #[] 0)).alloc (.mapIter none 0 #[] 0)) = _ := fun ty => run_next_nilMap _ ty 0 0 #[]
  have e1 : (w.alloc (.map #[] 0)).heap.size = w.heap.size + 1 := by simp
  have ha2 : (w.alloc (.map #[] 0)).cell? ⟨a, 0, none⟩ = some (.map none) := (World.cell?_of_block (w := w) (a := ⟨a, 0, none⟩) (Below.heap_alloc w _ a hlt)).trans ha
  rw [e1] at hrg hnx
  clear hf
  go_enter Try.func13, Try.ntmps13
  go_wp2_with fail
  refine wp_loop_rounds 1 ?_
  rw [rounds_succ]
  go_wp2_with fail
  go_ret
  have h := CopyPost.mk (n := 0) (w' := (w.alloc (.map #[] 0)).alloc (.mapIter none 0 #[] 0)) (((MapI.made w)).below ((Below.refl _ _).alloc (Nat.le_refl _) _)) (by omega) (((Below.refl _ _).alloc (Nat.le_refl _) _).alloc (by simp) _)
  rw [show ((w.alloc (.map #[] 0)).alloc (.mapIter none 0 #[] 0)).heap.size = w.heap.size + 1 + 1 by simp] at h
  exact h
theorem mapCopy_any (a s : Nat) (v : Value) (f : MF) (w : World) (ha : w.cell? ⟨a, 0, none⟩ = some v) (hlt : a < w.heap.size) (hv : MapS w v s f) :
    Calls Try.prog 13 #[.pointer (some ⟨a, 0, none⟩)] w (CopyPost f w) := by
  rcases hv with ⟨rfl, rfl, h0⟩ | ⟨b, n, D, rfl, hn, rfl, hmi⟩
  · exact mapCopy_nil a f h0 w ha hlt
  · exact mapCopy_own a b n D f w ha hlt hn hmi

set_option maxHeartbeats 4000000 in
theorem immCopy_own (a b n : Nat) (D : DataW Unit) (f : MF) (w : World) (ha : w.cell? ⟨a, 0, none⟩ = some (.map (some b))) (hlt : a < w.heap.size) (hn : n ≤ 65537) (hmi : MI w b n D f) :
    Calls Try.prog 16 #[.pointer (some ⟨a, 0, none⟩)] w (CopyPost f w) := by
  have hmm := @run_makeMap Try.prog
  have hbl := hmi.own.lt
  have e1 : (w.alloc (.map #[] 0)).heap.size = w.heap.size + 1 := by simp
  have ha2 : (w.alloc (.map #[] 0)).cell? ⟨a, 0, none⟩ = some (.map (some b)) := (World.cell?_of_block (w := w) (a := ⟨a, 0, none⟩) (Below.heap_alloc w _ a hlt)).trans ha
  have hsz := hmi.own.size_le
  have HM := Lib.hid hmi
  clear hmi
  have hme := method_cp
  have hna := nil_cp
  go_enter Try.func16, Try.ntmps16
  go_wp2_with (at_range; refine wpList_range_own _ rfl _ 30 rfl 9 38 lawS Try.underlying30 _ b n D rfl (HM.out.own.alloc _) ?_; intro w0 hrg0 hg0 hs0)
  go_frame
  rw [e1] at hrg0 hs0 ⊢
  clear e1 ha2 ha
  go_loopw [4] (fun _ wr => ∃ (left : Lit → Bool) (cnt : Nat) (Dout : DataW Unit), wr.ranges Try.prog 9 (ptrElem 46) b (w.heap.size + 1) n D left cnt ∧ cnt ≤ size D ∧
      MI wr w.heap.size (size D - cnt) Dout (fun l => if left l = true then none else f l) ∧ Below w.heap.size w wr)
    (fun _ wr => wr.rangeLeft b (w.heap.size + 1))
  case atStart =>
    refine ⟨_, _, .map [], hrg0, Nat.le_refl _, ?_, ((Below.refl _ _).alloc (Nat.le_refl _) _).grown hg0 (by simp) (fun j hj => by cases hj)⟩
    rw [copyF_start HM.out.dom]
    exact ((MapI.made w).kept hg0 (by simp) (fun r e => by cases e)).mono (Nat.zero_le _)
  case round =>
    obtain ⟨left, cnt, Dout, hrg, hcs, hout, hnx⟩ := hrel
    clear hrg0 hg0 hs0 hmm
    go_wp2_with (at_next; refine wpList_next_ptr _ rfl _ rfl b (w.heap.size + 1) n D left cnt rfl hrg ?_ ?_)
    · intro hc0 hl0
      obtain ⟨De, hDe⟩ := copy_end ⟨⟨_, hout⟩⟩ hl0
      clear hrg hout
      have HD := Lib.hid hDe
      have HX := Lib.hid hnx
      clear hDe hnx hl0
      subst hc0
      go_wp2_with fail
      go_ret
      exact CopyPost.mk HD.out (by omega) HX.out
    · intro l g w1 cnt1 hll hlx hat hrg1 hlt1 hg1 hs1 hen
      obtain ⟨v, hfv, hblk⟩ := (HM.out.below hnx).at_ hat
      have hblk1 : Blk w1 g 48 #[.int .i64 v] := hblk.same (hg1.block g hblk.lt (fun e => iter_no_cells hrg g e.symm _ _ _ hblk))
      have hc1 : w1.cell? ⟨g, 0, none⟩ = some (.int .i64 v) := by rw [hblk1.cell]; rfl
      have hout1 := hout.kept hg1 (by simp) (iter_no_cells hrg)
      have hn1 := hnx.grown hg1 hnx.size (fun j hj => by cases hj; exact Nat.le_succ _)
      have HOUT := Lib.hid (hout1.below ((Below.refl w1.heap.size w1).alloc (Nat.le_refl _) (.cells #[.int .i64 v] 48)))
      have HRG := Lib.hid (hrg1.alloc (.cells #[.int .i64 v] 48))
      have HI := Lib.hid (Blk.new w1 48 #[.int .i64 v])
      have HNX := Lib.hid (hn1.alloc hn1.size (.cells #[.int .i64 v] 48))
      have HL := Lib.hid hrg.left_eq
      have HCF := Lib.hid (copyF_step (f := f) (left := left) (kl := .string l) trivial hfv)
      have HC := Lib.hid (intCopy_any g v w1 hc1)
      have hbl2 := hnx.size
      clear hrg hout hrg1 hout1 hg1 hn1 hblk hblk1 hat hlx hnx hfv hs1
      go_wp2_with first
        | (go_at_call 49; refine HC.out.mono ?_; rintro e w' ⟨rfl, rfl⟩)
        | (at_mapUpdate; refine wpList_mapUpdate_ptr _ rfl _ _ _ rfl w.heap.size _ _ rfl HOUT.out.own (by unfold maxLen; omega) l hll w1.heap.size rfl rfl ?_; intro w2 hout2 hg2; go_frame)
      have hrg2 := HRG.out.kept hg2 (fun e => by have := Option.some.inj e; omega) (fun e => by have := Option.some.inj e; omega)
      have hN := HOUT.out.put (v := v) hout2 hg2 trivial HI.out
      rw [HCF.out] at hN
      have hB := HNX.out.grown hg2 (by have := HNX.out.size; exact this) (fun j hj => by cases hj; exact Nat.le_refl _)
      go_roundw
      case rel => exact ⟨_, cnt1, _, hrg2, by omega, hN.mono (by omega), hB⟩
      case measure => rw [hrg2.left_eq, HL.out]; exact hlt1
set_option maxHeartbeats 2000000 in
theorem immCopy_nil (a : Nat) (f : MF) (hf : ∀ l, f l = none) (w : World) (ha : w.cell? ⟨a, 0, none⟩ = some (.map none)) (hlt : a < w.heap.size) :
    Calls Try.prog 16 #[.pointer (some ⟨a, 0, none⟩)] w (CopyPost f w) := by
  obtain rfl : f = fun _ => none := funext hf
  have hmm := @run_makeMap Try.prog
  have hrg := run_range_nilMap (P := Try.prog) (w.alloc (.map #[] 0)) 30 9 38 Try.underlying30
  have hnx : ∀ ty, (Instr.next (.pointer (some ⟨(w.alloc (.map #[] 0)).heap.size, 0, none⟩)) false ty).run Try.prog ((w.alloc (.map #[] 0)).alloc (.mapIter none 0 #[] 0)) = _ := fun ty => run_next_nilMap _ ty 0 0 #[]
  have e1 : (w.alloc (.map #[] 0)).heap.size = w.heap.size + 1 := by simp
  have ha2 : (w.alloc (.map #[] 0)).cell? ⟨a, 0, none⟩ = some (.map none) := (World.cell?_of_block (w := w) (a := ⟨a, 0, none⟩) (Below.heap_alloc w _ a hlt)).trans ha
  rw [e1] at hrg hnx
  clear hf
  go_enter Try.func16, Try.ntmps16
  go_wp2_with fail
  refine wp_loop_rounds 1 ?_
  rw [rounds_succ]
  go_wp2_with fail
  go_ret
  have h := CopyPost.mk (n := 0) (w' := (w.alloc (.map #[] 0)).alloc (.mapIter none 0 #[] 0)) (((MapI.made w)).below ((Below.refl _ _).alloc (Nat.le_refl _) _)) (by omega) (((Below.refl _ _).alloc (Nat.le_refl _) _).alloc (by simp) _)
  rw [show ((w.alloc (.map #[] 0)).alloc (.mapIter none 0 #[] 0)).heap.size = w.heap.size + 1 + 1 by simp] at h
  exact h
theorem immCopy_any (a s : Nat) (v : Value) (f : MF) (w : World) (ha : w.cell? ⟨a, 0, none⟩ = some v) (hlt : a < w.heap.size) (hv : MapS w v s f) :
    Calls Try.prog 16 #[.pointer (some ⟨a, 0, none⟩)] w (CopyPost f w) := by
  rcases hv with ⟨rfl, rfl, h0⟩ | ⟨b, n, D, rfl, hn, rfl, hmi⟩
  · exact immCopy_nil a f h0 w ha hlt
  · exact immCopy_own a b n D f w ha hlt hn hmi
end Go.Proofs.Ythlhfhcjfikflaa
