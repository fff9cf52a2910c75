/-
  Array + Array, the law's own objects. Conditions: as stated.
-/
import Derived.Test.YtelclbbocnlanaaDoorArr92
import Derived.Outline
namespace Go.Proofs.YtelclbbocnlanaaDoor
open Go.RowKit
set_option maxRecDepth 100000
set_option linter.unusedVariables false

theorem ta_arr (W : World) (a : Option Addr) : (Instr.typeAssert (.iface 25 (.pointer a)) 34 25 true).run Tryd.prog W = .ok (.tuple #[.pointer a, .bool true]) W := by kernel_rfl
/-- append onto a full row: a new row -/
theorem wpList_append_fresh {P : Program} {w : World} {ops : Array Oper} {rest : List Oper} {o : Oper} {a : Act} {Q : Exit → Act → World → Prop} (hgd : o.guard = none) (s x : Operand) (t tx : TypeId)
    (ho : o.op = .call { callee := .builtin .append, args := #[s, x], argTypes := #[t, tx] })
    (e : TypeId) (i : TypeInfo) (z : Value) (bytes : Nat) (ht : P.underlying t = some (.slice e)) (hi : P.info? e = some i) (hz : i.zero = some z)
    (hsize : i.size = 1) (hby : i.bytes = bytes)
    (g n cap : Nat) (xs : List Value) (hs : a.eval s = .slice (some ⟨g, 0, none⟩) n cap) (hlen : xs.length = n) (holds : ∀ j u, xs[j]? = some u → w.cell? ((⟨g, 0, none⟩ : Addr).add j) = some u)
    (xv : Value) (m : Nat) (news : List Value) (hx : a.eval x = xv) (hsrc : Src P 1 tx xv m news w) (hcap : cap < n + m)
    (h63 : n + m ≤ maxLen) (hbytes : (n + m) * bytes ≤ 140737488355328)
    (h : ∀ cap' cells', cells'.toList.take (n + m) = xs ++ news → n + m ≤ cap' → wpList P ops Q rest (a.put o.dst (.slice (some ⟨w.heap.size, 0, none⟩) (n + m) cap')) (w.drew.alloc (.cells cells' e))) : wpList P ops Q (o :: rest) a w := by
  subst hby
  have hl := hsrc.newsLen
  have hsmall : n + m ≤ 9223372036854775807 := by simp only [maxLen] at h63; omega
  refine wpList_plain hgd fun K hK => ?_
  have hr := run_append_grow_src (P := P) w t tx o.type e i z ht hi hz (some ⟨g, 0, none⟩) n cap xs (run_firstCells_some w.drew i.size n ⟨g, 0, none⟩ n cap xs (by rw [hsize]; omega) (by simpa using holds)) xv m news (by rw [hsize]; exact hsrc) (by omega) (by omega) (growslice_fits (by omega) hbytes)
  unfold Oper.wp execOp
  simp only [ho, resolve, invoke, builtin, Sem.run_bind, Sem.run_pure, Result.andThen_ok, List.map_toArray, List.map_cons, List.map_nil, hs, hx, hr]
  refine hK _ _ (h _ _ ?_ (grownCap_ge w (n + m) cap e))
  have hlen2 : (xs ++ news).length = n + m := by rw [List.length_append, hlen, hl]; omega
  simp only [Array.toList_append]
  rw [← hlen2]
  exact List.take_left
def SumPost (a : Nat) (xs ys : List Int) (w : World) (e : Ending) (w' : World) : Prop :=
  (ys = [] ∧ e = .returned (.tuple #[.iface 25 (.pointer (some ⟨a, 0, none⟩)), .nilIface]) ∧ w = w') ∨
  ∃ p b cap, e = .returned (.tuple #[.iface 25 (.pointer (some ⟨p, 0, none⟩)), .nilIface]) ∧ w'.cell? ⟨p, 0, none⟩ = some (.slice (some ⟨b, 0, none⟩) (xs ++ ys).length cap) ∧ ObjsAt w' w'.heap.size b (xs ++ ys) ∧ p < w'.heap.size ∧ Below w.heap.size w w'
/-- the cells of such a row -/
theorem ObjsAt.row {w : World} {B b : Nat} {l : List Int} (h : ObjsAt w B b l) : ∃ cs : List Value, cs.length = l.length ∧ (∀ j u, cs[j]? = some u → w.cell? ((⟨b, 0, none⟩ : Addr).add j) = some u) ∧ (∀ u ∈ cs, u.oneCell' = true) ∧
    ∀ i (hi : i < l.length), ∃ p, p < B ∧ cs[i]? = some (.iface 43 (.pointer (some ⟨p, 0, none⟩))) ∧ w.cell? ⟨p, 0, none⟩ = some (.int .i64 l[i]) := by
  have hch : ∀ i, ∃ p, (hi : i < l.length) → p < B ∧ w.cell? ⟨b, i, none⟩ = some (.iface 43 (.pointer (some ⟨p, 0, none⟩))) ∧ w.cell? ⟨p, 0, none⟩ = some (.int .i64 l[i]) := by
    intro i
    by_cases hi : i < l.length
    · obtain ⟨p, h1, h2, h3⟩ := h.2 i hi
      exact ⟨p, fun _ => ⟨h1, h2, h3⟩⟩
    · exact ⟨0, fun h => absurd h hi⟩
  obtain ⟨pf, hpf⟩ := Classical.axiomOfChoice hch
  refine ⟨(List.range l.length).map fun i => .iface 43 (.pointer (some ⟨pf i, 0, none⟩)), by simp, fun j u hu => ?_, fun u hu => ?_, fun i hi => ⟨pf i, (hpf i hi).1, by simp [hi], (hpf i hi).2.2⟩⟩
  · rw [List.getElem?_map] at hu
    by_cases hj : j < l.length
    · rw [List.getElem?_range hj] at hu
      have ea : (⟨b, 0, none⟩ : Addr).add j = ⟨b, j, none⟩ := by unfold Addr.add; split <;> simp_all
      rw [ea, (hpf j hj).2.1]
      exact hu
    · rw [List.getElem?_eq_none (by simp; omega)] at hu
      cases hu
  · obtain ⟨i, _, rfl⟩ := List.mem_map.1 hu
    rfl
theorem sum_close {a n m cap' : Nat} {xs ys : List Int} {w : World} {cx cy : List Value} {cells' : Array Value} (hx : xs.length = n) (hy : ys.length = m) (hcx : cx.length = n) (hcy : cy.length = m)
    (x4 : ∀ i (hi : i < xs.length), ∃ p, p < w.heap.size ∧ cx[i]? = some (.iface 43 (.pointer (some ⟨p, 0, none⟩))) ∧ w.cell? ⟨p, 0, none⟩ = some (.int .i64 xs[i]))
    (y4 : ∀ i (hi : i < ys.length), ∃ p, p < w.heap.size ∧ cy[i]? = some (.iface 43 (.pointer (some ⟨p, 0, none⟩))) ∧ w.cell? ⟨p, 0, none⟩ = some (.int .i64 ys[i]))
    (htk : cells'.toList.take (n + m) = cx ++ cy) :
    SumPost a xs ys w (.returned (.tuple #[.iface 25 (.pointer (some ⟨w.heap.size + 1, 0, none⟩)), .nilIface])) (((w.alloc (.cells cells' 34)).alloc (.cells #[.slice (some ⟨w.heap.size, 0, none⟩) (n + m) cap'] 31)).drew.drew) := by
  have hb1 : Below w.heap.size w (w.alloc (.cells cells' 34)) := (Below.refl _ _).alloc (Nat.le_refl _) _
  have hz1 : (w.alloc (.cells cells' 34)).heap.size = w.heap.size + 1 := by simp
  have hk1 := Blk.new w 34 cells'
  generalize (w.alloc (.cells cells' 34)) = w1 at *
  have hb2 : Below w1.heap.size w1 (w1.alloc (.cells #[.slice (some ⟨w.heap.size, 0, none⟩) (n + m) cap'] 31)) := (Below.refl _ _).alloc (Nat.le_refl _) _
  have hz2 : (w1.alloc (.cells #[.slice (some ⟨w.heap.size, 0, none⟩) (n + m) cap'] 31)).heap.size = w1.heap.size + 1 := by simp
  have hk2 := Blk.new w1 31 #[.slice (some ⟨w.heap.size, 0, none⟩) (n + m) cap']
  generalize (w1.alloc (.cells #[.slice (some ⟨w.heap.size, 0, none⟩) (n + m) cap'] 31)) = w2 at *
  have hl : (xs ++ ys).length = n + m := by rw [List.length_append, hx, hy]
  refine Or.inr ⟨w.heap.size + 1, w.heap.size, cap', rfl, ?_, ⟨?_, fun i hi => ?_⟩, ?_, ?_⟩
  · show w2.cell? _ = _
    rw [← hz1, hk2.cell, hl]
    rfl
  · show w.heap.size < w2.heap.size
    omega
  · have hc : ∀ q, q < w.heap.size → ∀ u, w.cell? ⟨q, 0, none⟩ = some u → w2.cell? ⟨q, 0, none⟩ = some u := fun q hq u hu => (hb2.cell (p := ⟨q, 0, none⟩) (show q < w1.heap.size by omega)).trans ((hb1.cell (p := ⟨q, 0, none⟩) hq).trans hu)
    have hcell : w2.cell? ⟨w.heap.size, i, none⟩ = (cx ++ cy)[i]? := by
      rw [hb2.cell (p := ⟨w.heap.size, i, none⟩) (show w.heap.size < w1.heap.size by omega), hk1.cell, ← htk, List.getElem?_take, if_pos (by omega)]
      simp
    by_cases hin : i < n
    · obtain ⟨q, q1, q2, q3⟩ := x4 i (by omega)
      refine ⟨q, show q < w2.heap.size by omega, ?_, ?_⟩
      · show w2.cell? _ = _
        rw [hcell, List.getElem?_append_left (by omega)]
        exact q2
      · show w2.cell? _ = _
        rw [List.getElem_append_left (by omega)]
        exact hc q q1 _ q3
    · obtain ⟨q, q1, q2, q3⟩ := y4 (i - n) (by omega)
      refine ⟨q, show q < w2.heap.size by omega, ?_, ?_⟩
      · show w2.cell? _ = _
        rw [hcell, List.getElem?_append_right (by omega), hcx]
        exact q2
      · show w2.cell? _ = _
        rw [List.getElem_append_right (by omega)]
        have := hc q q1 _ q3
        simp only [hx]
        exact this
  · show w.heap.size + 1 < w2.heap.size
    omega
  · exact ((hb1.trans (hb2.mono (by omega))).drew).drew
set_option maxHeartbeats 2000000 in
theorem bin_any (a b c d n m : Nat) (xs ys : List Int) (w : World) (hx : xs.length = n) (hy : ys.length = m) (hn : n ≤ 1048576) (hm : m ≤ 1048576)
    (ha : w.cell? ⟨a, 0, none⟩ = some (.slice (some ⟨b, 0, none⟩) n n)) (hc : w.cell? ⟨c, 0, none⟩ = some (.slice (some ⟨d, 0, none⟩) m m)) (hox : ObjsAt w w.heap.size b xs) (hoy : ObjsAt w w.heap.size d ys) :
    Calls Tryd.prog 11 #[.pointer (some ⟨a, 0, none⟩), .int .i64 11, .iface 25 (.pointer (some ⟨c, 0, none⟩))] w (SumPost a xs ys w) := by
  have ta := ta_arr
  obtain ⟨i0, hii, hy0, hy1, hy2⟩ := info_parts obj_info
  obtain ⟨cx, x1, x2, x3, x4⟩ := hox.row
  obtain ⟨cy, y1, y2, y3, y4⟩ := hoy.row
  by_cases hm0 : m = 0
  · have t0 : ((m : Int) == 0) = true := by simp; omega
    have HY : Hid (ys = []) := Lib.hid (List.eq_nil_of_length_eq_zero (by omega))
    subst hm0
    clear hx hy hox hoy x1 x2 x3 x4 y1 y2 y3 y4 hii hy0 hy1 hy2 t0
    go_enter Tryd.func11, Tryd.ntmps11
    go_wp2
    go_ret2
    exact Or.inl ⟨HY.out, rfl, rfl⟩
  · have t0 : ((m : Int) == 0) = false := by simp; omega
    have HX := Lib.hid hx
    have HY := Lib.hid hy
    have C1 := Lib.hid (And.intro x1 (And.intro x2 (And.intro x3 x4)))
    have C2 := Lib.hid (And.intro y1 (And.intro y2 (And.intro y3 y4)))
    have IH := Lib.hid (And.intro hii (And.intro hy0 (And.intro hy1 hy2)))
    clear hx hy hox hoy x1 x2 x3 x4 y1 y2 y3 y4 hii hy0 hy1 hy2
    go_enter Tryd.func11, Tryd.ntmps11
    go_wp2
    go_still_tail 8, (by kernel_rfl)
    change wpList _ _ _ _ _ w.drew
    have hb0 : Below w.heap.size w w.drew := (Below.refl _ _).drew
    have hcl : ∀ p, w.drew.cell? p = w.cell? p := fun p => rfl
    have hsz : w.drew.heap.size = w.heap.size := rfl
    go_wp2_with (at_builtin; refine Hid.out ?_)
    refine Lib.hid ?_
    refine wpList_append_fresh rfl (.tmp 30) (.tmp 34) 26 26 rfl 34 i0 .nilIface 16 Tryd.underlying26 IH.out.1 IH.out.2.1 IH.out.2.2.1 IH.out.2.2.2 b n n cx rfl (by rw [C1.out.1, HX.out]) (fun j u h => C1.out.2.1 j u h) (.slice (some ⟨d, 0, none⟩) m m) m cy rfl (Src.ofSlice _ Tryd.underlying26 _ _ m cy (by rw [C2.out.1, HY.out]; omega) (fun j u h => C2.out.2.1 j u h) C2.out.2.2.1) (by omega) (by simp only [maxLen]; omega) (by omega) ?_
    intro cap' cells' htk hcap
    have HTK := Lib.hid htk
    clear htk
    go_wp2_with fail
    go_ret2
    exact sum_close HX.out HY.out (C1.out.1.trans HX.out) (C2.out.1.trans HY.out) C1.out.2.2.2 C2.out.2.2.2 HTK.out
end Go.Proofs.YtelclbbocnlanaaDoor
