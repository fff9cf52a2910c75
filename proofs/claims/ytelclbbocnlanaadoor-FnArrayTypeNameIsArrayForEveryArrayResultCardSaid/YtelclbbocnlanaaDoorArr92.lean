/-
  Copy and TypeName of arrays of Ints. Conditions: as stated.
-/
import Derived.Test.YtelclbbocnlanaaDoorAppN
namespace Go.Proofs.YtelclbbocnlanaaDoor
open Go.RowKit
set_option maxRecDepth 100000
set_option linter.unusedVariables false

theorem src_obj {w : World} {g p : Nat} (hb : Blk w g 34 #[.iface 43 (.pointer (some ⟨p, 0, none⟩))]) : Src Tryd.prog 1 26 (.slice (some ⟨g, 0, none⟩) 1 1) 1 [.iface 43 (.pointer (some ⟨p, 0, none⟩))] w := by
  refine Src.ofSlice w Tryd.underlying26 _ _ 1 _ (by simp) (fun j u h => ?_) (fun u h => by rw [List.mem_singleton.1 h]; rfl)
  have hj0 : j = 0 := by
    rcases j with _ | j
    · rfl
    · simp at h
  subst hj0
  have h2 : some (Value.iface 43 (.pointer (some ⟨p, 0, none⟩))) = some u := h
  rw [← Option.some.inj h2, show (⟨g, 0, none⟩ : Addr).add 0 = ⟨g, 0, none⟩ from rfl, hb.cell]
  rfl
/-- the cells of a row of copied objects, and what they point to -/
def CopyCells (w : World) (xs : List Int) (cs : List Value) (k : Nat) : Prop :=
  ∀ i (h : i < xs.length), i < k → ∃ p, p < w.heap.size ∧ cs[i]? = some (.iface 43 (.pointer (some ⟨p, 0, none⟩))) ∧ Blk w p 45 #[.int .i64 xs[i]]
theorem CopyCells.keep {w w' : World} {xs : List Int} {cs : List Value} {k : Nat} (h : CopyCells w xs cs k) (hb : Below w.heap.size w w') : CopyCells w' xs cs k := by
  intro i hi hk
  obtain ⟨p, h1, h2, h3⟩ := h i hi hk
  exact ⟨p, Nat.lt_of_lt_of_le h1 hb.size, h2, h3.same (hb.block p h1)⟩
/-- a row that holds copies of the first k -/
def CopyTo (w : World) (B : Nat) (v : Value) (xs : List Int) (k : Nat) : Prop :=
  ∃ cs : List Value, cs.length = k ∧ w.ownsRow B 34 1 v k cs ∧ CopyCells w xs cs k
theorem CopyTo.shape {w : World} {B : Nat} {v : Value} {xs : List Int} {k : Nat} (h : CopyTo w B v xs k) : ∃ ao cp, v = .slice ao k cp := by
  obtain ⟨cs, _, ho, _⟩ := h
  rcases ho.2 with ⟨h0, h1⟩ | ⟨g, cap, cur, hv, _⟩
  · exact ⟨none, 0, by rw [h0, h1]⟩
  · exact ⟨_, _, hv⟩
theorem CopyCells.next {w w' : World} {B : Nat} {v : Value} {xs : List Int} {cs : List Value} {k p : Nat} {x : Int} (ho : w.ownsRow B 34 1 v k cs) (hg : w.grownBy w' v.ownBlock) (h : CopyCells w xs cs k) (hk : cs.length = k)
    (hn : Blk w p 45 #[.int .i64 x]) {hkx : k < xs.length} (hx : xs[k] = x) (hne : 34 ≠ 45) : CopyCells w' xs (cs ++ [.iface 43 (.pointer (some ⟨p, 0, none⟩))]) (k + 1) := by
  have hkeep : ∀ q y, Blk w q 45 #[.int .i64 y] → Blk w' q 45 #[.int .i64 y] ∧ q < w'.heap.size := by
    intro q y hq
    have hq1 : w'.heap[q]? = w.heap[q]? := hg.block q hq.lt (by
      intro e
      rcases ho.2 with ⟨rfl, _⟩ | ⟨g, cap, cur, rfl, _, hh, _⟩
      · simp [Value.ownBlock] at e
      · have e2 : q = g := by simpa [Value.ownBlock] using e
        subst e2
        have := hq.symm.trans hh
        injection this with this
        injection this with _ this
        exact hne this.symm)
    exact ⟨hq.same hq1, (hq.same hq1).lt⟩
  intro i hi hik
  by_cases e : i = k
  · subst e
    obtain ⟨h1, h2⟩ := hkeep p x hn
    exact ⟨p, h2, by rw [List.getElem?_append_right (by omega)]; simp [hk], by rw [hx]; exact h1⟩
  · obtain ⟨q, q1, q2, q3⟩ := h i hi (by omega)
    obtain ⟨h1, h2⟩ := hkeep q _ q3
    exact ⟨q, h2, by rw [List.getElem?_append_left (by omega)]; exact q2, h1⟩
def CopyPost (xs : List Int) (w : World) (e : Ending) (w' : World) : Prop :=
  ∃ p v, e = .returned (.iface 25 (.pointer (some ⟨p, 0, none⟩))) ∧ w'.cell? ⟨p, 0, none⟩ = some v ∧ CopyTo w' w.heap.size v xs xs.length ∧ Below w.heap.size w w'
theorem CopyPost.mk {xs : List Int} {w w' : World} {v : Value} (h : CopyTo w' w.heap.size v xs xs.length) (hb : Below w.heap.size w w') : CopyPost xs w (.returned (.iface 25 (.pointer (some ⟨w'.heap.size, 0, none⟩)))) (w'.alloc (.cells #[v] 31)) := by
  obtain ⟨cs, h1, h2, h3⟩ := h
  refine ⟨w'.heap.size, v, rfl, by rw [(Blk.new w' _ _).cell]; rfl, ⟨cs, h1, h2.alloc _, h3.keep ((Below.refl _ _).alloc (Nat.le_refl _) _)⟩, hb.alloc hb.size _⟩
set_option maxHeartbeats 400000 in
theorem intCopy_any (p : Nat) (x : Int) (w : World) (h1 : w.cell? ⟨p, 0, none⟩ = some (.int .i64 x)) :
    Calls Tryd.prog 42 #[.pointer (some ⟨p, 0, none⟩)] w fun e w' => e = .returned (.iface 43 (.pointer (some ⟨w.heap.size, 0, none⟩))) ∧ w' = w.alloc (.cells #[.int .i64 x] 45) := by
  go_enter Tryd.func42, Tryd.ntmps42
  go_wp2
  go_ret
  exact ⟨rfl, rfl⟩
theorem method_copy (a : Addr) (w : World) : (method 183 43 (.pointer (some a)) "Copy").run Tryd.prog w = .ok (42, .pointer (some a)) w := by kernel_rfl
theorem method_tn (a : Addr) (w : World) : (method 183 25 (.pointer (some a)) "TypeName").run Tryd.prog w = .ok (7, .pointer (some a)) w := by kernel_rfl
set_option maxHeartbeats 400000 in
theorem tn_any (v : Value) (w : World) : Calls Tryd.prog 7 #[v] w fun e w' => e = .returned (.string ⟨#[97, 114, 114, 97, 121]⟩) ∧ w = w' := by
  go_enter Tryd.func7, Tryd.ntmps7
  go_wp2
  go_ret
  exact ⟨rfl, rfl⟩
set_option maxHeartbeats 400000 in
theorem tm_any (v : Value) (w : World) : Calls Tryd.prog 9 #[v] w fun e w' => e = .returned (.string ⟨#[105, 109, 109, 117, 116, 97, 98, 108, 101, 45, 97, 114, 114, 97, 121]⟩) ∧ w = w' := by
  go_enter Tryd.func9, Tryd.ntmps9
  go_wp2
  go_ret
  exact ⟨rfl, rfl⟩

set_option maxHeartbeats 2000000 in
theorem arrCopy_any (a b n : Nat) (xs : List Int) (w : World) (hx : xs.length = n) (hn : n ≤ 1048576) (ha : w.cell? ⟨a, 0, none⟩ = some (.slice (some ⟨b, 0, none⟩) n n)) (hlt : a < w.heap.size) (hox : ObjsAt w w.heap.size b xs) :
    Calls Tryd.prog 8 #[.pointer (some ⟨a, 0, none⟩)] w (CopyPost xs w) := by
  obtain ⟨i0, hii, hy0, hy1, hy2⟩ := info_parts obj_info
  have HX := Lib.hid hx
  have HO := Lib.hid hox
  clear hx hox
  go_enter Tryd.func8, Tryd.ntmps8
  go_wp2
  go_loopw [3, 11] (fun v i wr => ∃ k : Nat, k ≤ n ∧ i = .int .i64 k ∧ CopyTo wr w.heap.size v xs k ∧ Below w.heap.size w wr) (fun _ i _ => n - (intOf i).toNat)
  case atStart => exact ⟨0, Nat.zero_le _, rfl, ⟨[], rfl, World.ownsRow_nil _ _ _ _, fun i hi h0 => absurd h0 (by omega)⟩, Below.refl _ _⟩
  case round =>
    obtain ⟨k, hk, rfl, hto, hbel⟩ := hrel
    by_cases hlt2 : k < n
    · have tl : decide ((k : Int) < (n : Int)) = true := by simp; omega
      obtain ⟨p, hp, e1, e2⟩ := HO.out.2 k (by rw [HX.out]; exact hlt2)
      have c1 := (hbel.cell (p := ⟨b, k, none⟩) HO.out.1).trans e1
      have c2 := (hbel.cell (p := ⟨p, 0, none⟩) hp).trans e2
      have hme := method_copy
      have HB := Lib.hid hbel
      obtain ⟨cs, hcl, hown, hcs⟩ := hto
      have hcl2 := Lib.hid hcl
      have HOWN := Lib.hid hown
      have HCS := Lib.hid hcs
      have hkx : k < xs.length := by rw [HX.out]; exact hlt2
      clear hbel hown hcs e1 e2 hcl
      obtain ⟨x, hxk⟩ : ∃ x, xs[k] = x := ⟨_, rfl⟩
      rw [hxk] at c2
      have HXK := Lib.hid hxk
      clear hxk
      have HCP := Lib.hid (intCopy_any p x wr c2)
      go_wp2_with (go_at_call 42; refine Hid.out ?_)
      refine Lib.hid ?_
      refine HCP.out.mono ?_
      rintro e w1 ⟨rfl, rfl⟩
      clear HCP
      go_wp2_with (at_builtin; refine Hid.out ?_)
      have B1 := Lib.hid (HB.out.alloc HB.out.size (.cells #[.int .i64 x] 45))
      have O1 := Lib.hid (HOWN.out.alloc (.cells #[.int .i64 x] 45))
      have hn1 := Blk.new wr 45 #[.int .i64 x]
      have hz1 : (wr.alloc (.cells #[.int .i64 x] 45)).heap.size = wr.heap.size + 1 := by simp
      have CS1 := Lib.hid (CopyCells.keep HCS.out ((Below.refl wr.heap.size wr).alloc (Nat.le_refl _) (.cells #[.int .i64 x] 45)))
      generalize (wr.alloc (.cells #[.int .i64 x] 45)) = w1 at B1 O1 hn1 hz1 CS1 ⊢
      have hbk := Blk.new w1 34 #[.iface 43 (.pointer (some ⟨wr.heap.size, 0, none⟩))]
      have CS2 := Lib.hid (CopyCells.keep CS1.out ((Below.refl w1.heap.size w1).alloc (Nat.le_refl _) (.cells #[.iface 43 (.pointer (some ⟨wr.heap.size, 0, none⟩))] 34)))
      have B2 := Lib.hid (B1.out.alloc B1.out.size (.cells #[.iface 43 (.pointer (some ⟨wr.heap.size, 0, none⟩))] 34))
      have hn2 := hn1.same (Below.heap_alloc w1 (.cells #[.iface 43 (.pointer (some ⟨wr.heap.size, 0, none⟩))] 34) _ hn1.lt)
      have O2 := Lib.hid (O1.out.alloc (.cells #[.iface 43 (.pointer (some ⟨wr.heap.size, 0, none⟩))] 34))
      have hlt1 := hn1.lt
      rw [show wr.heap.size + 1 = w1.heap.size by omega]
      generalize (w1.alloc (.cells #[.iface 43 (.pointer (some ⟨wr.heap.size, 0, none⟩))] 34)) = w2 at CS2 B2 hn2 O2 hbk ⊢
      refine Lib.hid ?_
      refine wpList_append_own_src rfl (.tmp 15) (.tmp 18) 26 26 rfl w.heap.size 34 i0 .nilIface 1 16 Tryd.underlying26 hii hy0 hy1 hy2 rfl (by decide) _ k cs rfl O2.out _ 1 [.iface 43 (.pointer (some ⟨wr.heap.size, 0, none⟩))] rfl (src_obj hbk) (by simp only [maxLen]; omega) (by omega) B2.out.size ?_
      intro v3 w3 hown3 hgrow3 _
      have hb3 := (Below.refl _ _).grown hgrow3 B2.out.size (fun k hk => (O2.out.lt k hk).1)
      have HN : Hid (CopyTo w3 w.heap.size v3 xs (k + 1)) := Lib.hid (by
        refine ⟨cs ++ [.iface 43 (.pointer (some ⟨wr.heap.size, 0, none⟩))], by simp [hcl2.out], hown3, CopyCells.next (O2.out) hgrow3 CS2.out hcl2.out hn2 (by rw [HXK.out]) (by decide)⟩)
      have B3 := Lib.hid (B2.out.trans hb3)
      clear hown3 hgrow3 hb3 O2 B2 hn2 hbk CS2 CS1 O1 B1 hn1 HOWN HCS HB
      go_wp2_with fail
      go_roundw
      case rel => exact ⟨k + 1, by omega, by go_num, HN.out, B3.out⟩
      case measure => simp [intOf]; omega
    · obtain rfl : k = n := by omega
      have tl : decide ((k : Int) < (k : Int)) = false := by simp
      obtain ⟨ao, cp, rfl⟩ := hto.shape
      have HT := Lib.hid hto
      have HB := Lib.hid hbel
      clear hto hbel
      go_wp2_with fail
      go_ret
      exact CopyPost.mk (HX.out ▸ HT.out) HB.out

set_option maxHeartbeats 2000000 in
theorem immCopy_any (a b n : Nat) (xs : List Int) (w : World) (hx : xs.length = n) (hn : n ≤ 1048576) (ha : w.cell? ⟨a, 0, none⟩ = some (.slice (some ⟨b, 0, none⟩) n n)) (hlt : a < w.heap.size) (hox : ObjsAt w w.heap.size b xs) :
    Calls Tryd.prog 10 #[.pointer (some ⟨a, 0, none⟩)] w (CopyPost xs w) := by
  obtain ⟨i0, hii, hy0, hy1, hy2⟩ := info_parts obj_info
  have HX := Lib.hid hx
  have HO := Lib.hid hox
  clear hx hox
  go_enter Tryd.func10, Tryd.ntmps10
  go_wp2
  go_loopw [3, 11] (fun v i wr => ∃ k : Nat, k ≤ n ∧ i = .int .i64 k ∧ CopyTo wr w.heap.size v xs k ∧ Below w.heap.size w wr) (fun _ i _ => n - (intOf i).toNat)
  case atStart => exact ⟨0, Nat.zero_le _, rfl, ⟨[], rfl, World.ownsRow_nil _ _ _ _, fun i hi h0 => absurd h0 (by omega)⟩, Below.refl _ _⟩
  case round =>
    obtain ⟨k, hk, rfl, hto, hbel⟩ := hrel
    by_cases hlt2 : k < n
    · have tl : decide ((k : Int) < (n : Int)) = true := by simp; omega
      obtain ⟨p, hp, e1, e2⟩ := HO.out.2 k (by rw [HX.out]; exact hlt2)
      have c1 := (hbel.cell (p := ⟨b, k, none⟩) HO.out.1).trans e1
      have c2 := (hbel.cell (p := ⟨p, 0, none⟩) hp).trans e2
      have hme := method_copy
      have HB := Lib.hid hbel
      obtain ⟨cs, hcl, hown, hcs⟩ := hto
      have hcl2 := Lib.hid hcl
      have HOWN := Lib.hid hown
      have HCS := Lib.hid hcs
      have hkx : k < xs.length := by rw [HX.out]; exact hlt2
      clear hbel hown hcs e1 e2 hcl
      obtain ⟨x, hxk⟩ : ∃ x, xs[k] = x := ⟨_, rfl⟩
      rw [hxk] at c2
      have HXK := Lib.hid hxk
      clear hxk
      have HCP := Lib.hid (intCopy_any p x wr c2)
      go_wp2_with (go_at_call 42; refine Hid.out ?_)
      refine Lib.hid ?_
      refine HCP.out.mono ?_
      rintro e w1 ⟨rfl, rfl⟩
      clear HCP
      go_wp2_with (at_builtin; refine Hid.out ?_)
      have B1 := Lib.hid (HB.out.alloc HB.out.size (.cells #[.int .i64 x] 45))
      have O1 := Lib.hid (HOWN.out.alloc (.cells #[.int .i64 x] 45))
      have hn1 := Blk.new wr 45 #[.int .i64 x]
      have hz1 : (wr.alloc (.cells #[.int .i64 x] 45)).heap.size = wr.heap.size + 1 := by simp
      have CS1 := Lib.hid (CopyCells.keep HCS.out ((Below.refl wr.heap.size wr).alloc (Nat.le_refl _) (.cells #[.int .i64 x] 45)))
      generalize (wr.alloc (.cells #[.int .i64 x] 45)) = w1 at B1 O1 hn1 hz1 CS1 ⊢
      have hbk := Blk.new w1 34 #[.iface 43 (.pointer (some ⟨wr.heap.size, 0, none⟩))]
      have CS2 := Lib.hid (CopyCells.keep CS1.out ((Below.refl w1.heap.size w1).alloc (Nat.le_refl _) (.cells #[.iface 43 (.pointer (some ⟨wr.heap.size, 0, none⟩))] 34)))
      have B2 := Lib.hid (B1.out.alloc B1.out.size (.cells #[.iface 43 (.pointer (some ⟨wr.heap.size, 0, none⟩))] 34))
      have hn2 := hn1.same (Below.heap_alloc w1 (.cells #[.iface 43 (.pointer (some ⟨wr.heap.size, 0, none⟩))] 34) _ hn1.lt)
      have O2 := Lib.hid (O1.out.alloc (.cells #[.iface 43 (.pointer (some ⟨wr.heap.size, 0, none⟩))] 34))
      have hlt1 := hn1.lt
      rw [show wr.heap.size + 1 = w1.heap.size by omega]
      generalize (w1.alloc (.cells #[.iface 43 (.pointer (some ⟨wr.heap.size, 0, none⟩))] 34)) = w2 at CS2 B2 hn2 O2 hbk ⊢
      refine Lib.hid ?_
      refine wpList_append_own_src rfl (.tmp 15) (.tmp 18) 26 26 rfl w.heap.size 34 i0 .nilIface 1 16 Tryd.underlying26 hii hy0 hy1 hy2 rfl (by decide) _ k cs rfl O2.out _ 1 [.iface 43 (.pointer (some ⟨wr.heap.size, 0, none⟩))] rfl (src_obj hbk) (by simp only [maxLen]; omega) (by omega) B2.out.size ?_
      intro v3 w3 hown3 hgrow3 _
      have hb3 := (Below.refl _ _).grown hgrow3 B2.out.size (fun k hk => (O2.out.lt k hk).1)
      have HN : Hid (CopyTo w3 w.heap.size v3 xs (k + 1)) := Lib.hid (by
        refine ⟨cs ++ [.iface 43 (.pointer (some ⟨wr.heap.size, 0, none⟩))], by simp [hcl2.out], hown3, CopyCells.next (O2.out) hgrow3 CS2.out hcl2.out hn2 (by rw [HXK.out]) (by decide)⟩)
      have B3 := Lib.hid (B2.out.trans hb3)
      clear hown3 hgrow3 hb3 O2 B2 hn2 hbk CS2 CS1 O1 B1 hn1 HOWN HCS HB
      go_wp2_with fail
      go_roundw
      case rel => exact ⟨k + 1, by omega, by go_num, HN.out, B3.out⟩
      case measure => simp [intOf]; omega
    · obtain rfl : k = n := by omega
      have tl : decide ((k : Int) < (k : Int)) = false := by simp
      obtain ⟨ao, cp, rfl⟩ := hto.shape
      have HT := Lib.hid hto
      have HB := Lib.hid hbel
      clear hto hbel
      go_wp2_with fail
      go_ret
      exact CopyPost.mk (HX.out ▸ HT.out) HB.out
end Go.Proofs.YtelclbbocnlanaaDoor
