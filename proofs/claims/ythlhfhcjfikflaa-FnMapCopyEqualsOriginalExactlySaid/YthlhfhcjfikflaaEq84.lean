/-
  Map.Equals over maps of Ints. Conditions: as stated.
-/
import Derived.Test.YthlhfhcjfikflaaCp84
namespace Go.Proofs.Ythlhfhcjfikflaa
open Go.RowKit Go.Maps Go.WideMaps
set_option maxRecDepth 100000
set_option linter.unusedVariables false

def EqPost (s1 s2 : Nat) (f1 f2 : MF) (w : World) (e : Ending) (w' : World) : Prop :=
  ∃ r, e = .returned (.bool r) ∧ (r = true ↔ EqM s1 s2 f1 f2) ∧ Below w.heap.size w w'
theorem eqm_no1 {s1 s2 : Nat} {f1 f2 : MF} (h : s1 ≠ s2) : (false = true) ↔ EqM s1 s2 f1 f2 := ⟨fun e => (nomatch e), fun e => absurd e.1 h⟩
theorem eqm_no2 {s1 s2 : Nat} {f1 f2 : MF} {l : Lit} {v : Int} (h1 : f1 l = some v) (h2 : f2 l ≠ some v) : (false = true) ↔ EqM s1 s2 f1 f2 := ⟨fun e => (nomatch e), fun e => absurd (e.2 l v h1) h2⟩
theorem eqm_yes {s1 s2 : Nat} {f1 f2 : MF} (h1 : s1 = s2) (h2 : ∀ l v, f1 l = some v → f2 l = some v) : (true = true) ↔ EqM s1 s2 f1 f2 := ⟨fun _ => ⟨h1, h2⟩, fun _ => rfl⟩
theorem ranges_dn {w : World} {b r n cnt : Nat} {D : DataW Unit} {left : Lit → Bool} (h : w.ranges Try.prog 9 (ptrElem 46) b r n D left cnt) (q : Nat) : (w.drewN q).ranges Try.prog 9 (ptrElem 46) b r n D left cnt :=
  h.kept (row := none) ⟨rfl, rfl, rfl, Nat.le_refl _, fun _ _ _ => rfl⟩ (by simp) (by simp)

set_option maxHeartbeats 4000000 in
theorem mapEq_map (a c b1 b2 n1 n2 : Nat) (D1 D2 : DataW Unit) (f1 f2 : MF) (w : World) (ha : w.cell? ⟨a, 0, none⟩ = some (.map (some b1))) (hc : w.cell? ⟨c, 0, none⟩ = some (.map (some b2))) (h1 : MI w b1 n1 D1 f1) (h2 : MI w b2 n2 D2 f2) :
    Calls Try.prog 17 #[.pointer (some ⟨a, 0, none⟩), .iface 29 (.pointer (some ⟨c, 0, none⟩))] w (EqPost (size D1) (size D2) f1 f2 w) := by
  have hl1 := fun ty => h1.own.len Try.underlying30 ty
  have hl2 := fun ty => h2.own.len Try.underlying30 ty
  have H1 := Lib.hid h1
  have H2 := Lib.hid h2
  clear h1 h2
  have ta1 := ta_map
  have hme := method_eq
  have hna := nil_eq
  by_cases hs : size D1 = size D2
  rotate_left
  · have t1 : ((size D1 : Int) != (size D2 : Int)) = true := by simp; omega
    have t2 : (size D1 != size D2) = true := by simpa using hs
    have t3 : (size D1 == size D2) = false := by simpa using hs
    have HS := Lib.hid hs
    clear hs
    go_enter Try.func17, Try.ntmps17
    go_wp2_with fail
    go_ret
    exact ⟨false, rfl, eqm_no1 HS.out, Below.refl _ _⟩
  have HS := Lib.hid hs
  rw [← hs] at hl2
  have t1 : ((size D1 : Int) != (size D1 : Int)) = false := by simp
  clear hs
  go_enter Try.func17, Try.ntmps17
  go_wp2_with (at_range; refine wpList_range_own _ rfl _ 30 rfl 9 38 lawS Try.underlying30 _ b1 n1 D1 rfl H1.out.own ?_; intro w0 hrg0 hg0 hs0)
  go_frame
  clear ha hc hl1 hl2 t1
  go_loopw [9] (fun _ wr => ∃ (left : Lit → Bool) (cnt : Nat), wr.ranges Try.prog 9 (ptrElem 46) b1 w.heap.size n1 D1 left cnt ∧ EqTo f1 f2 left ∧ Below w.heap.size w wr)
    (fun _ wr => wr.rangeLeft b1 w.heap.size)
  case atStart => exact ⟨_, _, hrg0, eqTo_start H1.out.dom, (Below.refl _ _).grown hg0 (Nat.le_refl _) (fun j hj => by cases hj)⟩
  case round =>
    obtain ⟨left, cnt, hrg, hto, hnx⟩ := hrel
    clear hrg0 hg0 hs0
    go_wp2_with (at_next; refine wpList_next_ptr _ rfl _ rfl b1 w.heap.size n1 D1 left cnt rfl hrg ?_ ?_)
    · intro hc0 hl0
      have HX := Lib.hid hnx
      have HE := Lib.hid (eqTo_end hto hl0)
      clear hnx hl0 hto hrg
      go_wp2_with fail
      go_ret
      exact ⟨true, rfl, eqm_yes HS.out HE.out, HX.out⟩
    · intro l g w1 cnt1 hll hlx hat hrg1 hlt1 hg1 hs1 hen
      obtain ⟨v, hfv, hblk⟩ := (H1.out.below hnx).at_ hat
      have hblk1 : Blk w1 g 48 #[.int .i64 v] := hblk.same (hg1.block g hblk.lt (fun e => iter_no_cells hrg g e.symm _ _ _ hblk))
      have hc1 : w1.cell? ⟨g, 0, none⟩ = some (.int .i64 v) := by rw [hblk1.cell]; rfl
      have hbl2 := H2.out.own.lt
      have h2w := (H2.out.below hnx).kept hg1 (fun e => by have := Option.some.inj e; omega) (iter_no_cells hrg)
      have HNX := Lib.hid (hnx.grown hg1 hnx.size (fun j hj => by cases hj; exact Nat.le_refl _))
      have HRG := Lib.hid hrg1
      have HL := Lib.hid hrg.left_eq
      have HFV := Lib.hid hfv
      have HTO := Lib.hid hto
      rcases look_ptr h2w.own lawS Try.underlying30 (zeroO w1) (keyS l hll) with ⟨hrun, hno⟩ | ⟨g2, hrun, hat2⟩
      · have HNO : Hid (f2 (.string l) ≠ some v) := Lib.hid (by
          rw [h2w.dom] at hno
          intro e
          rw [e] at hno
          cases hno)
        clear hrg hrg1 hg1 hblk hblk1 hat hlx hnx hfv hs1 hto h2w hno
        go_wp2_with (go_at_call 50; refine (intEq_nil g _).mono ?_; rintro e w' ⟨rfl, rfl⟩)
        go_ret
        exact ⟨false, rfl, eqm_no2 HFV.out HNO.out, HNX.out⟩
      · obtain ⟨v2, hfv2, hblk2⟩ := h2w.at_ hat2
        have hc2 : w1.cell? ⟨g2, 0, none⟩ = some (.int .i64 v2) := by rw [hblk2.cell]; rfl
        have hrun2 : (Instr.lookup 30 (.map (some b2)) (.string ⟨l.toArray⟩) false).run Try.prog w1 = .ok (.iface 46 (.pointer (some ⟨g2, 0, none⟩))) w1 := hrun
        have HFV2 := Lib.hid hfv2
        have HC := Lib.hid (intEq_any g g2 v v2 w1 hc1 hc2)
        clear hrg hrg1 hg1 hblk hblk1 hat hlx hnx hfv hs1 hto h2w hat2 hblk2 hfv2 hrun
        by_cases hvv : v = v2
        · subst hvv
          have hb : (v == v) = true := by simp
          rw [hb] at HC
          have HN := Lib.hid (eqTo_step HTO.out (kl := .string l) trivial HFV.out HFV2.out)
          clear hb
          go_wp2_with (go_at_call 50; refine HC.out.mono ?_; rintro e w' ⟨rfl, nq, rfl⟩)
          go_roundw
          case rel => exact ⟨_, cnt1, ranges_dn HRG.out nq, HN.out, below_dn HNX.out nq⟩
          case measure =>
            rw [(ranges_dn HRG.out nq).left_eq, HL.out]
            exact hlt1
        · have hb : (v == v2) = false := by simpa using hvv
          rw [hb] at HC
          have HNO : Hid (f2 (.string l) ≠ some v) := Lib.hid (by
            rw [HFV2.out]
            intro e
            exact hvv (Option.some.inj e).symm)
          clear hb hvv
          go_wp2_with (go_at_call 50; refine HC.out.mono ?_; rintro e w' ⟨rfl, nq, rfl⟩)
          go_ret
          exact ⟨false, rfl, eqm_no2 HFV.out HNO.out, below_dn HNX.out nq⟩

set_option maxHeartbeats 4000000 in
theorem mapEq_imm (a c b1 b2 n1 n2 : Nat) (D1 D2 : DataW Unit) (f1 f2 : MF) (w : World) (ha : w.cell? ⟨a, 0, none⟩ = some (.map (some b1))) (hc : w.cell? ⟨c, 0, none⟩ = some (.map (some b2))) (h1 : MI w b1 n1 D1 f1) (h2 : MI w b2 n2 D2 f2) :
    Calls Try.prog 17 #[.pointer (some ⟨a, 0, none⟩), .iface 40 (.pointer (some ⟨c, 0, none⟩))] w (EqPost (size D1) (size D2) f1 f2 w) := by
  have hl1 := fun ty => h1.own.len Try.underlying30 ty
  have hl2 := fun ty => h2.own.len Try.underlying30 ty
  have H1 := Lib.hid h1
  have H2 := Lib.hid h2
  clear h1 h2
  have ta1 := ta_imm
  have ta2 := ta_imm_map
  have hme := method_eq
  have hna := nil_eq
  by_cases hs : size D1 = size D2
  rotate_left
  · have t1 : ((size D1 : Int) != (size D2 : Int)) = true := by simp; omega
    have t2 : (size D1 != size D2) = true := by simpa using hs
    have t3 : (size D1 == size D2) = false := by simpa using hs
    have HS := Lib.hid hs
    clear hs
    go_enter Try.func17, Try.ntmps17
    go_wp2_with fail
    go_ret
    exact ⟨false, rfl, eqm_no1 HS.out, Below.refl _ _⟩
  have HS := Lib.hid hs
  rw [← hs] at hl2
  have t1 : ((size D1 : Int) != (size D1 : Int)) = false := by simp
  clear hs
  go_enter Try.func17, Try.ntmps17
  go_wp2_with (at_range; refine wpList_range_own _ rfl _ 30 rfl 9 38 lawS Try.underlying30 _ b1 n1 D1 rfl H1.out.own ?_; intro w0 hrg0 hg0 hs0)
  go_frame
  clear ha hc hl1 hl2 t1
  go_loopw [9] (fun _ wr => ∃ (left : Lit → Bool) (cnt : Nat), wr.ranges Try.prog 9 (ptrElem 46) b1 w.heap.size n1 D1 left cnt ∧ EqTo f1 f2 left ∧ Below w.heap.size w wr)
    (fun _ wr => wr.rangeLeft b1 w.heap.size)
  case atStart => exact ⟨_, _, hrg0, eqTo_start H1.out.dom, (Below.refl _ _).grown hg0 (Nat.le_refl _) (fun j hj => by cases hj)⟩
  case round =>
    obtain ⟨left, cnt, hrg, hto, hnx⟩ := hrel
    clear hrg0 hg0 hs0
    go_wp2_with (at_next; refine wpList_next_ptr _ rfl _ rfl b1 w.heap.size n1 D1 left cnt rfl hrg ?_ ?_)
    · intro hc0 hl0
      have HX := Lib.hid hnx
      have HE := Lib.hid (eqTo_end hto hl0)
      clear hnx hl0 hto hrg
      go_wp2_with fail
      go_ret
      exact ⟨true, rfl, eqm_yes HS.out HE.out, HX.out⟩
    · intro l g w1 cnt1 hll hlx hat hrg1 hlt1 hg1 hs1 hen
      obtain ⟨v, hfv, hblk⟩ := (H1.out.below hnx).at_ hat
      have hblk1 : Blk w1 g 48 #[.int .i64 v] := hblk.same (hg1.block g hblk.lt (fun e => iter_no_cells hrg g e.symm _ _ _ hblk))
      have hc1 : w1.cell? ⟨g, 0, none⟩ = some (.int .i64 v) := by rw [hblk1.cell]; rfl
      have hbl2 := H2.out.own.lt
      have h2w := (H2.out.below hnx).kept hg1 (fun e => by have := Option.some.inj e; omega) (iter_no_cells hrg)
      have HNX := Lib.hid (hnx.grown hg1 hnx.size (fun j hj => by cases hj; exact Nat.le_refl _))
      have HRG := Lib.hid hrg1
      have HL := Lib.hid hrg.left_eq
      have HFV := Lib.hid hfv
      have HTO := Lib.hid hto
      rcases look_ptr h2w.own lawS Try.underlying30 (zeroO w1) (keyS l hll) with ⟨hrun, hno⟩ | ⟨g2, hrun, hat2⟩
      · have HNO : Hid (f2 (.string l) ≠ some v) := Lib.hid (by
          rw [h2w.dom] at hno
          intro e
          rw [e] at hno
          cases hno)
        clear hrg hrg1 hg1 hblk hblk1 hat hlx hnx hfv hs1 hto h2w hno
        go_wp2_with (go_at_call 50; refine (intEq_nil g _).mono ?_; rintro e w' ⟨rfl, rfl⟩)
        go_ret
        exact ⟨false, rfl, eqm_no2 HFV.out HNO.out, HNX.out⟩
      · obtain ⟨v2, hfv2, hblk2⟩ := h2w.at_ hat2
        have hc2 : w1.cell? ⟨g2, 0, none⟩ = some (.int .i64 v2) := by rw [hblk2.cell]; rfl
        have hrun2 : (Instr.lookup 30 (.map (some b2)) (.string ⟨l.toArray⟩) false).run Try.prog w1 = .ok (.iface 46 (.pointer (some ⟨g2, 0, none⟩))) w1 := hrun
        have HFV2 := Lib.hid hfv2
        have HC := Lib.hid (intEq_any g g2 v v2 w1 hc1 hc2)
        clear hrg hrg1 hg1 hblk hblk1 hat hlx hnx hfv hs1 hto h2w hat2 hblk2 hfv2 hrun
        by_cases hvv : v = v2
        · subst hvv
          have hb : (v == v) = true := by simp
          rw [hb] at HC
          have HN := Lib.hid (eqTo_step HTO.out (kl := .string l) trivial HFV.out HFV2.out)
          clear hb
          go_wp2_with (go_at_call 50; refine HC.out.mono ?_; rintro e w' ⟨rfl, nq, rfl⟩)
          go_roundw
          case rel => exact ⟨_, cnt1, ranges_dn HRG.out nq, HN.out, below_dn HNX.out nq⟩
          case measure =>
            rw [(ranges_dn HRG.out nq).left_eq, HL.out]
            exact hlt1
        · have hb : (v == v2) = false := by simpa using hvv
          rw [hb] at HC
          have HNO : Hid (f2 (.string l) ≠ some v) := Lib.hid (by
            rw [HFV2.out]
            intro e
            exact hvv (Option.some.inj e).symm)
          clear hb hvv
          go_wp2_with (go_at_call 50; refine HC.out.mono ?_; rintro e w' ⟨rfl, nq, rfl⟩)
          go_ret
          exact ⟨false, rfl, eqm_no2 HFV.out HNO.out, below_dn HNX.out nq⟩

set_option maxHeartbeats 2000000 in
theorem mapEq_n0 (a c : Nat) (v2 : Value) (s2 : Nat) (f1 f2 : MF) (hf : ∀ l, f1 l = none) (w : World) (ha : w.cell? ⟨a, 0, none⟩ = some (.map none)) (hc : w.cell? ⟨c, 0, none⟩ = some v2) (h2 : MapS w v2 s2 f2) :
    Calls Try.prog 17 #[.pointer (some ⟨a, 0, none⟩), .iface 29 (.pointer (some ⟨c, 0, none⟩))] w (EqPost 0 s2 f1 f2 w) := by
  have ta1 := ta_map
  have hl1 := fun ty => Maps.len_nil (P := Try.prog) (w := w) Try.underlying30 ty
  have hrg := run_range_nilMap (P := Try.prog) w 30 9 38 Try.underlying30
  have hnx : ∀ ty, (Instr.next (.pointer (some ⟨w.heap.size, 0, none⟩)) false ty).run Try.prog (w.alloc (.mapIter none 0 #[] 0)) = _ := fun ty => run_next_nilMap w ty 0 0 #[]
  have HF : Hid (∀ l v, f1 l = some v → f2 l = some v) := Lib.hid (fun l v h => by rw [hf] at h; cases h)
  have hl2 : ∀ ty, (Builtin.len_ #[30] ty #[v2]).run Try.prog w = .ok (.int .i64 (s2 : Int)) w := by
    rcases h2 with ⟨rfl, rfl, _⟩ | ⟨b, n, D, rfl, _, rfl, hmi⟩
    · exact hl1
    · exact fun ty => hmi.own.len Try.underlying30 ty
  have hv2 : (∃ o, v2 = .map o) := by
    rcases h2 with ⟨rfl, _⟩ | ⟨b, n, D, rfl, _⟩
    · exact ⟨_, rfl⟩
    · exact ⟨_, rfl⟩
  obtain ⟨o2, rfl⟩ := hv2
  clear hf h2
  by_cases hs : s2 = 0
  · subst hs
    go_enter Try.func17, Try.ntmps17
    go_wp2_with fail
    refine wp_loop_rounds 1 ?_
    rw [rounds_succ]
    go_wp2_with fail
    go_ret
    exact ⟨true, rfl, eqm_yes rfl HF.out, (Below.refl _ _).alloc (Nat.le_refl _) _⟩
  · have t1 : ((0 : Int) != (s2 : Int)) = true := by simp; omega
    have HS := Lib.hid hs
    have t2 : ((s2 : Int) == 0) = false := by simp; omega
    have t3 : ((0 : Int) == (s2 : Int)) = false := by simp; omega
    clear hs
    go_enter Try.func17, Try.ntmps17
    go_wp2_with fail
    go_ret
    exact ⟨false, rfl, eqm_no1 (fun e => HS.out e.symm), Below.refl _ _⟩
set_option maxHeartbeats 2000000 in
theorem mapEq_x0 (a c b1 n1 : Nat) (D1 : DataW Unit) (f1 f2 : MF) (w : World) (ha : w.cell? ⟨a, 0, none⟩ = some (.map (some b1))) (hc : w.cell? ⟨c, 0, none⟩ = some (.map none)) (h1 : MI w b1 n1 D1 f1) :
    Calls Try.prog 17 #[.pointer (some ⟨a, 0, none⟩), .iface 29 (.pointer (some ⟨c, 0, none⟩))] w (EqPost (size D1) 0 f1 f2 w) := by
  have ta1 := ta_map
  have hl1 := fun ty => h1.own.len Try.underlying30 ty
  have hl2 := fun ty => Maps.len_nil (P := Try.prog) (w := w) Try.underlying30 ty
  have H1 := Lib.hid h1
  clear h1
  by_cases hs : size D1 = 0
  rotate_left
  · have t1 : ((size D1 : Int) != 0) = true := by simp; omega
    have t2 : ((size D1 : Int) == 0) = false := by simp; omega
    have HS := Lib.hid hs
    clear hs
    go_enter Try.func17, Try.ntmps17
    go_wp2_with fail
    go_ret
    exact ⟨false, rfl, eqm_no1 HS.out, Below.refl _ _⟩
  have HS := Lib.hid hs
  have HF := Lib.hid ((H1.out.empty_iff lawS).1 hs)
  rw [hs] at hl1
  clear hs
  simp only [Int.cast_ofNat_Int] at hl1
  go_enter Try.func17, Try.ntmps17
  go_wp2_with (at_range; refine wpList_range_own _ rfl _ 30 rfl 9 38 lawS Try.underlying30 _ b1 n1 D1 rfl H1.out.own ?_; intro w0 hrg0 hg0 hs0)
  go_frame
  clear ha hc hl1 hl2
  go_loopw [9] (fun _ wr => ∃ (left : Lit → Bool) (cnt : Nat), wr.ranges Try.prog 9 (ptrElem 46) b1 w.heap.size n1 D1 left cnt ∧ Below w.heap.size w wr)
    (fun _ wr => wr.rangeLeft b1 w.heap.size)
  case atStart => exact ⟨_, _, hrg0, (Below.refl _ _).grown hg0 (Nat.le_refl _) (fun j hj => by cases hj)⟩
  case round =>
    obtain ⟨left, cnt, hrg, hnx⟩ := hrel
    clear hrg0 hg0 hs0
    go_wp2_with (at_next; refine wpList_next_ptr _ rfl _ rfl b1 w.heap.size n1 D1 left cnt rfl hrg ?_ ?_)
    · intro hc0 hl0
      have HX := Lib.hid hnx
      clear hnx hl0 hrg
      go_wp2_with fail
      go_ret
      exact ⟨true, rfl, by rw [HS.out]; exact eqm_yes rfl (fun l v h => by rw [HF.out] at h; cases h), HX.out⟩
    · intro l g w1 cnt1 hll hlx hat hrg1 hlt1 hg1 hs1 hen
      obtain ⟨v, hfv, _⟩ := (H1.out.below hnx).at_ hat
      rw [HF.out] at hfv
      cases hfv
theorem mapEq_any (a c : Nat) (v1 v2 : Value) (s1 s2 : Nat) (f1 f2 : MF) (w : World) (ha : w.cell? ⟨a, 0, none⟩ = some v1) (hc : w.cell? ⟨c, 0, none⟩ = some v2) (h1 : MapS w v1 s1 f1) (h2 : MapS w v2 s2 f2) :
    Calls Try.prog 17 #[.pointer (some ⟨a, 0, none⟩), .iface 29 (.pointer (some ⟨c, 0, none⟩))] w (EqPost s1 s2 f1 f2 w) := by
  rcases h1 with ⟨rfl, rfl, h0⟩ | ⟨b, n, D, rfl, hn, rfl, hmi⟩
  · exact mapEq_n0 a c v2 s2 f1 f2 h0 w ha hc h2
  · rcases h2 with ⟨rfl, rfl, h0'⟩ | ⟨b', n', D', rfl, hn', rfl, hmi'⟩
    · exact mapEq_x0 a c b n D f1 f2 w ha hc hmi
    · exact mapEq_map a c b b' n n' D D' f1 f2 w ha hc hmi hmi'
end Go.Proofs.Ythlhfhcjfikflaa
