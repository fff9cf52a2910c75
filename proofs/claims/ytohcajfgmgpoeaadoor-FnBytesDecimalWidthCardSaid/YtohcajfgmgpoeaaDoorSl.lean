/-
  Slices of bytes: slicing, made slices, their text; worlds that differ by draws alone. No conditions.
-/
import Derived.Test.YtohcajfgmgpoeaaDoorApp
import Derived.Laws.IdiomStrings
namespace Go.Proofs.YtohcajfgmgpoeaaDoor
open Go.RowKit
set_option maxRecDepth 100000
set_option linter.unusedVariables false

theorem el_u8 : Tryd.prog.elem 22 = 5 := by kernel_rfl
theorem run_sl (W : World) (b o n cap j k : Nat) (hjk : j ≤ k) (hk : k ≤ cap) (hne : ¬ cap = j) : (Instr.slice 22 (.slice (some ⟨b, o, none⟩) n cap) (some (.int .i64 (j : Int))) (some (.int .i64 (k : Int))) none).run Tryd.prog W = .ok (.slice (some ⟨b, o + j, none⟩) (k - j) (cap - j)) W := by
  rw [run_slice_lh W 22 _ n cap (by rw [el_u8]; exact Tryd.underlying22) .i64 .i64 _ _ (by omega) (by omega) (by omega), el_u8]
  have hs : (sizeOf 5).run Tryd.prog W = .ok 1 W := by kernel_rfl
  rw [hs]
  simp [Result.andThen, sliced, Addr.add]
  rw [if_neg hne]
  split
  · simp [*]
  · rfl
theorem run_slA (W : World) (b o n cap j k : Nat) (hjk : j ≤ k) (hk : k ≤ cap) (hne : ¬ cap = j) : (Instr.sliceAt 22 (.slice (some ⟨b, o, none⟩) n cap) (some (.int .i64 (j : Int))) (some (.int .i64 (k : Int))) none).run Tryd.prog W = .ok (.slice (some ⟨b, o + j, none⟩) (k - j) (cap - j)) W := by
  rw [run_sliceAt_slice W _ _ _ _ _ (by rw [el_u8]; exact Tryd.underlying22)]
  exact run_sl W b o n cap j k hjk hk hne

theorem run_slo (W : World) (b o n cap k : Nat) (hk : k ≤ cap) : (Instr.slice 22 (.slice (some ⟨b, o, none⟩) n cap) none (some (.int .i64 (k : Int))) none).run Tryd.prog W = .ok (.slice (some ⟨b, o, none⟩) k cap) W := by
  rw [run_slice_h W 22 _ n cap (by rw [el_u8]; exact Tryd.underlying22) .i64 _ (by omega) (by omega), el_u8]
  have hs : (sizeOf 5).run Tryd.prog W = .ok 1 W := by kernel_rfl
  rw [hs]
  simp [Result.andThen, sliced, Addr.add]
theorem run_sloA (W : World) (b o n cap k : Nat) (hk : k ≤ cap) : (Instr.sliceAt 22 (.slice (some ⟨b, o, none⟩) n cap) none (some (.int .i64 (k : Int))) none).run Tryd.prog W = .ok (.slice (some ⟨b, o, none⟩) k cap) W := by
  rw [run_sliceAt_slice W _ _ _ _ _ (by rw [el_u8]; exact Tryd.underlying22)]
  exact run_slo W b o n cap k hk
/-- bytes in memory as a string -/
theorem run_txt (l : List UInt8) (b o cap : Nat) (W : World) (hc : ∀ i (h : i < l.length), W.cell? ⟨b, o + i, none⟩ = some (.int .u8 (l[i].toNat : Int))) :
    (convert 22 9 (.slice (some ⟨b, o, none⟩) l.length cap)).run Tryd.prog W = .ok (.string ⟨l.toArray⟩) W := by
  refine run_convert_bytes_back W _ _ 5 ⟨b, o, none⟩ _ l Tryd.underlying22 Tryd.underlying5 Tryd.underlying9 (fun i hi => ?_)
  have ea : (⟨b, o, none⟩ : Addr).add i = ⟨b, o + i, none⟩ := by unfold Addr.add; split <;> simp_all
  rw [ea, hc i hi]
theorem mk0 (k : Nat) (hk : k ≤ 1048576) (w : World) : (Instr.makeSlice 22 (.int .i64 0) (.int .i64 (k : Int))).run Tryd.prog w = .ok (.slice (some ⟨w.heap.size, 0, none⟩) 0 k) (w.alloc (.cells (madeCells #[.int .u8 0] k) 5)) := by
  obtain ⟨i0, hi, hz0, hz1, hz2⟩ := info_parts u8_info
  have h := run_make (P := Tryd.prog) w 22 5 i0 _ Tryd.underlying22 hi hz0 .i64 .i64 0 k (by omega) (by omega) (by rw [hz2]; omega) (by omega)
  rw [h, hz1]
  simp [Value.cells]

theorem run_txt0 (cap : Nat) (W : World) : (convert 22 9 (.slice none 0 cap)).run Tryd.prog W = .ok (.string ⟨#[]⟩) W := by kernel_rfl
/-- bytes read through SrcAt, as a string -/
theorem run_txtAt {W : World} {B : Nat} {oA : Option Addr} {l : List UInt8} (cap : Nat) (h : SrcAt W B oA l) : (convert 22 9 (.slice oA l.length cap)).run Tryd.prog W = .ok (.string ⟨l.toArray⟩) W := by
  rcases h with rfl | ⟨b, o, rfl, _, hc⟩
  · rcases oA with _ | p
    · exact run_txt0 cap W
    · refine run_convert_bytes_back W _ _ 5 p _ [] Tryd.underlying22 Tryd.underlying5 Tryd.underlying9 (fun i hi => ?_)
      cases hi
  · exact run_txt l b o cap W hc

/-- draws alone -/
structure Qt (w w' : World) : Prop where
  os : w'.os = w.os
  tape : w'.tape = w.tape
  output : w'.output = w.output
  heap : w'.heap = w.heap
theorem Qt.refl (w : World) : Qt w w := ⟨rfl, rfl, rfl, rfl⟩
theorem Qt.trans {a b c : World} (h : Qt a b) (k : Qt b c) : Qt a c := ⟨k.os.trans h.os, k.tape.trans h.tape, k.output.trans h.output, k.heap.trans h.heap⟩
theorem Qt.drewN {a w : World} (h : Qt a w) (n : Nat) : Qt a (w.drewN n) := ⟨h.os, h.tape, h.output, h.heap⟩
theorem Qt.drew {a w : World} (h : Qt a w) : Qt a w.drew := ⟨h.os, h.tape, h.output, h.heap⟩
theorem Qt.block {a w : World} (h : Qt a w) (k : Nat) : w.heap[k]? = a.heap[k]? := by rw [h.heap]
theorem Qt.cell {a w : World} (h : Qt a w) (p : Addr) : w.cell? p = a.cell? p := World.cell?_of_block (w := a) (h.block p.block)
theorem Qt.below {a w : World} (h : Qt a w) (B : Nat) : Below B a w := ⟨h.os, h.tape, h.output, by rw [h.heap]; exact Nat.le_refl _, fun k _ => h.block k⟩
theorem Qt.src {a w : World} (h : Qt a w) {B : Nat} {oA : Option Addr} {l : List UInt8} (hs : SrcAt a B oA l) : SrcAt w B oA l := hs.keep (fun k _ => h.block k)
theorem Qt.own {a w : World} (h : Qt a w) {B : Nat} {e : TypeId} {size n : Nat} {v : Value} {xs : List Value} (hs : a.ownsRow B e size v n xs) : w.ownsRow B e size v n xs := own_keep0 hs (fun k _ => h.block k)
theorem own_srcAt {w : World} {B n cp : Nat} {ao : Option Addr} {l : List UInt8} (h : w.ownsRow B 5 1 (.slice ao n cp) l.length (u8c l)) : SrcAt w w.heap.size ao l := by
  rcases h.2 with ⟨_, h0⟩ | ⟨g, cap, cur, hv, _, hh, _⟩
  · exact Or.inl (List.eq_nil_of_length_eq_zero h0)
  · injection hv with h1 h2 h3
    subst h1 h2 h3
    exact Or.inr ⟨g, 0, rfl, Blk.lt (t := 5) hh, own_at8 h⟩
theorem own_val0 {w : World} {B n : Nat} {v : Value} {xs : List Value} (h : w.ownsRow B 5 1 v n xs) : ∃ ao cp, v = .slice ao n cp ∧ n ≤ cp ∧ cp ≤ maxLen := by
  rcases h.2 with ⟨h0, h1⟩ | ⟨g, cap, cur, hv, hg, hh, hn, hm, _⟩
  · exact ⟨none, 0, by rw [h0, h1], by omega, by simp [maxLen]⟩
  · exact ⟨_, cap, hv, hn, hm⟩
theorem own_cap {w : World} {B n c m : Nat} {ao : Option Addr} {xs : List Value} (h : w.ownsRow B 5 1 (.slice ao m c) n xs) : n ≤ c := by
  rcases h.2 with ⟨_, h1⟩ | ⟨g, cap, cur, hv, hg, hh, hn, hm, _⟩
  · omega
  · injection hv with _ _ h3
    omega
/-- what an append to a row of one's own leaves below B -/
theorem own_grow {w w' : World} {B n : Nat} {v : Value} {xs : List Value} (h : w.ownsRow B 5 1 v n xs) (hB : B ≤ w.heap.size) (hg : w.grownBy w' v.ownBlock) : Below B w w' :=
  (Below.refl _ _).grown hg hB (fun k hk => (h.lt k hk).1)
/-- a cell of one byte, as an append's source -/
theorem src_one {w : World} {g : Nat} {z : Nat} (hz : z < 256) {t0 : TypeId} (hb : Blk w g t0 #[.int .u8 (z : Int)]) : Src Tryd.prog 1 22 (.slice (some ⟨g, 0, none⟩) 1 1) 1 (u8c [UInt8.ofNat z]) w := by
  refine Src.ofSlice w Tryd.underlying22 _ _ 1 _ (by simp [u8c]) (fun j u h => ?_) (u8c_one _)
  have hj0 : j = 0 := by
    rcases j with _ | j
    · rfl
    · simp [u8c] at h
  subst hj0
  have hu : Value.int .u8 (z : Int) = u := by
    have e : ((UInt8.ofNat z).toNat : Int) = (z : Int) := by rw [UInt8.toNat_ofNat']; omega
    have h2 : some (Value.int .u8 ((UInt8.ofNat z).toNat : Int)) = some u := h
    rw [e] at h2
    exact Option.some.inj h2
  rw [← hu, show (⟨g, 0, none⟩ : Addr).add 0 = ⟨g, 0, none⟩ from rfl, hb.cell]
  rfl
theorem src_oneT {tx : TypeId} (hk : Tryd.prog.underlying tx = some (.slice 5)) {w : World} {g : Nat} {z : Nat} (hz : z < 256) {t0 : TypeId} (hb : Blk w g t0 #[.int .u8 (z : Int)]) : Src Tryd.prog 1 tx (.slice (some ⟨g, 0, none⟩) 1 1) 1 (u8c [UInt8.ofNat z]) w := by
  refine Src.ofSlice w hk _ _ 1 _ (by simp [u8c]) (fun j u h => ?_) (u8c_one _)
  have hj0 : j = 0 := by
    rcases j with _ | j
    · rfl
    · simp [u8c] at h
  subst hj0
  have hu : Value.int .u8 (z : Int) = u := by
    have e : ((UInt8.ofNat z).toNat : Int) = (z : Int) := by rw [UInt8.toNat_ofNat']; omega
    have h2 : some (Value.int .u8 ((UInt8.ofNat z).toNat : Int)) = some u := h
    rw [e] at h2
    exact Option.some.inj h2
  rw [← hu, show (⟨g, 0, none⟩ : Addr).add 0 = ⟨g, 0, none⟩ from rfl, hb.cell]
  rfl

theorem run_slT (t : TypeId) (hel : Tryd.prog.elem t = 5) (hun : Tryd.prog.underlying t = some (.slice 5)) (W : World) (b o n cap j k : Nat) (hjk : j ≤ k) (hk : k ≤ cap) (hne : ¬ cap = j) : (Instr.slice t (.slice (some ⟨b, o, none⟩) n cap) (some (.int .i64 (j : Int))) (some (.int .i64 (k : Int))) none).run Tryd.prog W = .ok (.slice (some ⟨b, o + j, none⟩) (k - j) (cap - j)) W := by
  rw [run_slice_lh W t _ n cap (by rw [hel]; exact hun) .i64 .i64 _ _ (by omega) (by omega) (by omega), hel]
  have hs : (sizeOf 5).run Tryd.prog W = .ok 1 W := by kernel_rfl
  rw [hs]
  simp [Result.andThen, sliced, Addr.add]
  rw [if_neg hne]
  split
  · simp [*]
  · rfl
theorem run_slAT (t : TypeId) (hel : Tryd.prog.elem t = 5) (hun : Tryd.prog.underlying t = some (.slice 5)) (W : World) (b o n cap j k : Nat) (hjk : j ≤ k) (hk : k ≤ cap) (hne : ¬ cap = j) : (Instr.sliceAt t (.slice (some ⟨b, o, none⟩) n cap) (some (.int .i64 (j : Int))) (some (.int .i64 (k : Int))) none).run Tryd.prog W = .ok (.slice (some ⟨b, o + j, none⟩) (k - j) (cap - j)) W := by
  rw [run_sliceAt_slice W _ _ _ _ _ (by rw [hel]; exact hun)]
  exact run_slT t hel hun W b o n cap j k hjk hk hne
theorem run_sloT (t : TypeId) (hel : Tryd.prog.elem t = 5) (hun : Tryd.prog.underlying t = some (.slice 5)) (W : World) (b o n cap k : Nat) (hk : k ≤ cap) : (Instr.slice t (.slice (some ⟨b, o, none⟩) n cap) none (some (.int .i64 (k : Int))) none).run Tryd.prog W = .ok (.slice (some ⟨b, o, none⟩) k cap) W := by
  rw [run_slice_h W t _ n cap (by rw [hel]; exact hun) .i64 _ (by omega) (by omega), hel]
  have hs : (sizeOf 5).run Tryd.prog W = .ok 1 W := by kernel_rfl
  rw [hs]
  simp [Result.andThen, sliced, Addr.add]
theorem run_sloAT (t : TypeId) (hel : Tryd.prog.elem t = 5) (hun : Tryd.prog.underlying t = some (.slice 5)) (W : World) (b o n cap k : Nat) (hk : k ≤ cap) : (Instr.sliceAt t (.slice (some ⟨b, o, none⟩) n cap) none (some (.int .i64 (k : Int))) none).run Tryd.prog W = .ok (.slice (some ⟨b, o, none⟩) k cap) W := by
  rw [run_sliceAt_slice W _ _ _ _ _ (by rw [hel]; exact hun)]
  exact run_sloT t hel hun W b o n cap k hk

/-- cells written one behind the other -/
def putMany (cs : Array Value) : Nat → List Value → Array Value
  | _, [] => cs
  | o, v :: r => putMany (cs.setIfInBounds o v) (o + 1) r
theorem putMany_size (vs : List Value) : ∀ (cs : Array Value) (o : Nat), (putMany cs o vs).size = cs.size := by
  induction vs with
  | nil => intro cs o; rfl
  | cons v r ih => intro cs o; rw [putMany, ih]; simp
theorem putMany_take (vs : List Value) : ∀ (cs : Array Value) (o : Nat), o + vs.length ≤ cs.size → (putMany cs o vs).toList.take (o + vs.length) = cs.toList.take o ++ vs := by
  induction vs with
  | nil => intro cs o h; simp [putMany]
  | cons v r ih =>
    intro cs o h
    have h1 : o + (r.length + 1) ≤ cs.size := h
    rw [putMany, List.length_cons, show o + (r.length + 1) = (o + 1) + r.length by omega, ih _ _ (by simp; omega)]
    have e : (cs.setIfInBounds o v).toList.take (o + 1) = cs.toList.take o ++ [v] := by
      rw [Array.toList_setIfInBounds, List.take_add_one]
      simp [show o < cs.size by omega, List.take_set_of_le]
    rw [e, List.append_assoc]
    rfl
theorem putMany_at (vs : List Value) : ∀ (cs : Array Value) (o i : Nat), (i < o ∨ o + vs.length ≤ i) → (putMany cs o vs)[i]? = cs[i]? := by
  induction vs with
  | nil => intro cs o i h; rfl
  | cons v r ih =>
    intro cs o i h
    have h1 : i < o ∨ o + (r.length + 1) ≤ i := h
    rw [putMany, ih _ _ _ (by omega), Array.getElem?_setIfInBounds, if_neg (by omega)]
theorem Blk.puts {g : Nat} {t : TypeId} (vs : List Value) : ∀ {w : World} {cs : Array Value} (o : Nat), Blk w g t cs → Blk (w.setCells g o vs) g t (putMany cs o vs) := by
  induction vs with
  | nil => intro w cs o h; exact h
  | cons v r ih => intro w cs o h; exact ih (o + 1) (h.put o v)
theorem Blk.putsOther {g g' : Nat} {t : TypeId} (hne : g ≠ g') (vs : List Value) : ∀ {w : World} {cs : Array Value} (o : Nat), Blk w g t cs → Blk (w.setCells g' o vs) g t cs := by
  induction vs with
  | nil => intro w cs o h; exact h
  | cons v r ih => intro w cs o h; exact ih (o + 1) (h.other (p := ⟨g', o, none⟩) hne v)
theorem below_puts {B g : Nat} (hg : B ≤ g) (vs : List Value) : ∀ {a w : World} (o : Nat), Below B a w → Below B a (w.setCells g o vs) := by
  induction vs with
  | nil => intro a w o h; exact h
  | cons v r ih => intro a w o h; exact ih (o + 1) (h.setCell (p := ⟨g, o, none⟩) hg v)
end Go.Proofs.YtohcajfgmgpoeaaDoor
