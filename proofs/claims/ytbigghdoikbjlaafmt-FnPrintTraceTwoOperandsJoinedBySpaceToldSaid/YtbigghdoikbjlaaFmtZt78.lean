/-
  The law's own traces: one and two operands. Conditions: fmt is told by the kit's own function.
-/
import Derived.Test.YtbigghdoikbjlaaFmtPT78
namespace Go.Proofs.YtbigghdoikbjlaaFmt
open Go.RowKit
open Go.Extern.Stop Go.Stop Go.Extern
set_option maxRecDepth 100000
set_option linter.unusedVariables false

theorem zero_co (w : World) : (zeroValue 46).run Tryf.prog w = .ok (.agg #[.pointer none, .pointer none, .string ⟨#[]⟩, .string ⟨#[]⟩, .slice none 0 0, .slice none 0 0, .pointer none, .slice none 0 0, .int .i64 0, .nilIface, .map none, .bool false, .slice none 0 0, .int .i64 0, .nilIface, .int .i64 0]) w := by kernel_rfl
theorem three (w : World) (x y z : Obj) : (((w.alloc x).alloc y).alloc z).heap[w.heap.size]? = some x ∧ (((w.alloc x).alloc y).alloc z).heap[w.heap.size + 1]? = some y ∧ (((w.alloc x).alloc y).alloc z).heap[w.heap.size + 1 + 1]? = some z := by
  have s1 : (w.alloc x).heap.size = w.heap.size + 1 := by simp
  have s2 : ((w.alloc x).alloc y).heap.size = w.heap.size + 1 + 1 := by simp
  have b2 : ∀ z, Below ((w.alloc x).alloc y).heap.size ((w.alloc x).alloc y) (((w.alloc x).alloc y).alloc z) := fun z => (Below.refl _ _).alloc (Nat.le_refl _) _
  have b1 : ∀ z, Below (w.alloc x).heap.size (w.alloc x) ((w.alloc x).alloc z) := fun z => (Below.refl _ _).alloc (Nat.le_refl _) _
  have n1 := heap_alloc_new w x
  have n2 := heap_alloc_new (w.alloc x) y
  have n3 := heap_alloc_new ((w.alloc x).alloc y) z
  rw [s1] at n2
  rw [s2] at n3
  exact ⟨(((b2 z).block _ (by omega)).trans ((b1 y).block _ (by omega))).trans n1, ((b2 z).block _ (by omega)).trans n2, n3⟩
theorem three_below (w : World) (x y z : Obj) : Below w.heap.size w (((w.alloc x).alloc y).alloc z) :=
  (((Below.refl w.heap.size w).alloc (Nat.le_refl _) x).alloc (by simp) y).alloc (by simp; omega) z
theorem fresh3 (w : World) (y z : Obj) : IsB w.heap.size w.heap.size [] (((w.alloc (.cells #[.slice none 0 0, .int .i64 0, .int .i8 0] 31)).alloc y).alloc z) :=
  ⟨Nat.le_refl _, .slice none 0 0, 0, (three w _ _ _).1, World.ownsRow_nil _ _ _ _, by simp [Value.ownBlock]⟩
theorem buf_str (B b : Nat) (l : List UInt8) (w : World) (h : IsB B b l w) :
    Calls Tryf.prog 11 #[.pointer (some ⟨b, 0, none⟩)] w fun e w' => e = .returned (.string ⟨l.toArray⟩) ∧ Below B w w' := by
  refine (Tryf.Buffer_String B b l w h).mono ?_
  rintro e w' ⟨h1, m, rfl⟩
  exact ⟨h1, ⟨rfl, rfl, rfl, Nat.le_refl _, fun _ _ => rfl⟩⟩

set_option maxHeartbeats 4000000 in
theorem z1_any (I : Interp) (n : Nat) (s : List UInt8) (w : World) (hF : I.told.answers w.tape) (hn : n ≤ 65536) (hs : s.length ≤ 1048576) :
    Calls Tryf.prog 6 #[.int .i64 (n : Int), .string ⟨s.toArray⟩] w fun e w' => e = .returned (.string ⟨(dotL n ++ (s ++ [10])).toArray⟩) ∧ Below w.heap.size w w' := by
  have hz := zero_co
  have HF := Lib.hid hF
  clear hF
  go_enter Tryf.func6, Tryf.ntmps6
  go_wp2_with fail
  refine (trace_any I w.heap.size w.heap.size (w.heap.size + 1) (w.heap.size + 1 + 1) 1 n (s ++ [10]) (FmtCalls.save 2 0 (.slice (some ⟨w.heap.size + 1 + 1, 0, none⟩) 1 1) .empty [] [(0, 118, false)]) _ _ _ _ _ (by exact HF.out) (fresh3 w _ _) (three_below w _ _ _).size (three w _ _ _).2.1 rfl rfl (three w _ _ _).2.2 (by omega) (by omega) (by simp; omega) hn ?_).mono ?_
  · intro W hg ht
    have hF' : I.told.answers W.tape := by
      rw [ht]
      exact HF.out
    exact ⟨ln1 _ W, ln1_turns I _ s W hF' (by omega) (blk_cell hg rfl)⟩
  have HT := Lib.hid (three_below w (.cells #[.slice none 0 0, .int .i64 0, .int .i8 0] 31) (.cells #[.pointer none, .pointer none, .string ⟨#[]⟩, .string ⟨#[]⟩, .slice none 0 0, .slice none 0 0, .pointer none, .slice none 0 0, .int .i64 0, .nilIface, .map none, .bool false, .slice none 0 0, .int .i64 0, .iface 33 (.pointer (some ⟨w.heap.size, 0, none⟩)), .int .i64 (n : Int)] 46) (.cells #[.iface 9 (.string ⟨s.toArray⟩)] 20))
  rintro e w2 ⟨rfl, h1, h2⟩
  have H2 := Lib.hid (buf_str _ _ _ w2 h1)
  have HB := Lib.hid (HT.out.trans h2)
  clear h1 h2 HT hz
  go_wp2_with fail
  refine H2.out.mono ?_
  rintro e w3 ⟨rfl, h3⟩
  have HB3 := Lib.hid (HB.out.trans h3)
  clear h3 HB H2
  go_wp2_with fail
  go_ret
  exact ⟨rfl, HB3.out⟩


set_option maxHeartbeats 4000000 in
theorem z2_any (I : Interp) (n : Nat) (s u : List UInt8) (w : World) (hF : I.told.answers w.tape) (hn : n ≤ 65536) (hs : s.length ≤ 1048576) (hu : u.length ≤ 1048576) :
    Calls Tryf.prog 9 #[.int .i64 (n : Int), .string ⟨s.toArray⟩, .string ⟨u.toArray⟩] w fun e w' => e = .returned (.string ⟨(dotL n ++ (s ++ 32 :: (u ++ [10]))).toArray⟩) ∧ Below w.heap.size w w' := by
  have hz := zero_co
  have HF := Lib.hid hF
  clear hF
  go_enter Tryf.func9, Tryf.ntmps9
  go_wp2_with fail
  refine (trace_any I w.heap.size w.heap.size (w.heap.size + 1) (w.heap.size + 1 + 1) 2 n (s ++ 32 :: (u ++ [10])) (FmtCalls.save 2 0 (.slice (some ⟨w.heap.size + 1 + 1, 0, none⟩) 2 2) .empty [] [(0, 118, false), (1, 118, false)]) _ _ _ _ _ (by exact HF.out) (fresh3 w _ _) (three_below w _ _ _).size (three w _ _ _).2.1 rfl rfl (three w _ _ _).2.2 (by omega) (by omega) (by simp; omega) hn ?_).mono ?_
  · intro W hg ht
    have hF' : I.told.answers W.tape := by
      rw [ht]
      exact HF.out
    exact ⟨ln2 _ W, ln2_turns I _ s u W hF' (by omega) (by omega) (blk_cell hg rfl) (blk_cell hg rfl)⟩
  have HT := Lib.hid (three_below w (.cells #[.slice none 0 0, .int .i64 0, .int .i8 0] 31) (.cells #[.pointer none, .pointer none, .string ⟨#[]⟩, .string ⟨#[]⟩, .slice none 0 0, .slice none 0 0, .pointer none, .slice none 0 0, .int .i64 0, .nilIface, .map none, .bool false, .slice none 0 0, .int .i64 0, .iface 33 (.pointer (some ⟨w.heap.size, 0, none⟩)), .int .i64 (n : Int)] 46) (.cells #[.iface 9 (.string ⟨s.toArray⟩), .iface 9 (.string ⟨u.toArray⟩)] 20))
  rintro e w2 ⟨rfl, h1, h2⟩
  have H2 := Lib.hid (buf_str _ _ _ w2 h1)
  have HB := Lib.hid (HT.out.trans h2)
  clear h1 h2 HT hz
  go_wp2_with fail
  refine H2.out.mono ?_
  rintro e w3 ⟨rfl, h3⟩
  have HB3 := Lib.hid (HB.out.trans h3)
  clear h3 HB H2
  go_wp2_with fail
  go_ret
  exact ⟨rfl, HB3.out⟩

end Go.Proofs.YtbigghdoikbjlaaFmt
