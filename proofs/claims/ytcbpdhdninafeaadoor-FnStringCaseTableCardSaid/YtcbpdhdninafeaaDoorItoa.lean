/-
  The law's own zzItoa computes the decimal text of every int. No conditions.
-/
import Derived.Test.YtcbpdhdninafeaaDoorKit
import Derived.Lib.ItoaLen
import Derived.Lib.Hide
import Derived.Laws.IdiomStrings
namespace Go.Proofs.YtcbpdhdninafeaaDoor
open Go.RowKit

/-- the buffer after the text t has been written at its end -/
def bufCells (t : List UInt8) : Array Value := ((List.replicate (24 - t.length) (0 : UInt8) ++ t).map fun c => Value.int .u8 c.toNat).toArray
/-- a block known whole -/
def IsBlk (w : World) (g : Nat) (t : TypeId) (cs : Array Value) : Prop := w.heap[g]? = some (.cells cs t (0, 0))
theorem IsBlk.cell {w : World} {g : Nat} {t : TypeId} {cs : Array Value} (h : IsBlk w g t cs) (i : Nat) : w.cell? ⟨g, i, none⟩ = cs[i]? := by
  unfold IsBlk at h
  simp [World.cell?, h]
theorem IsBlk.free {w : World} {g : Nat} {t : TypeId} {cs : Array Value} (h : IsBlk w g t cs) (i : Nat) : w.frozen? ⟨g, i, none⟩ = false := by
  unfold IsBlk at h
  simp [World.frozen?, h]
theorem IsBlk.put {w : World} {g : Nat} {t : TypeId} {cs : Array Value} (h : IsBlk w g t cs) (i : Nat) (u : Value) : IsBlk (w.setCell ⟨g, i, none⟩ u) g t (cs.setIfInBounds i u) := by
  unfold IsBlk at h ⊢
  simp [World.setCell, Array.getElem?_modify, h]

theorem buf_set (t : List UInt8) (j : Nat) (d : UInt8) (h : j + 1 + t.length = 24) : (bufCells t).setIfInBounds j (.int .u8 d.toNat) = bufCells (d :: t) := by
  have e1 : 24 - t.length = j + 1 := by omega
  have e2 : 24 - (d :: t).length = j := by simp; omega
  unfold bufCells
  rw [e1, e2]
  simp [List.replicate_succ', List.setIfInBounds_toArray]
theorem buf_at (t : List UInt8) (j : Nat) (i : Nat) (h : j + t.length = 24) (hi : i < t.length) : (bufCells t)[j + i]? = some (.int .u8 t[i].toNat) := by
  have e1 : 24 - t.length = j := by omega
  unfold bufCells
  rw [e1]
  simp [hi]
theorem buf_blank (t : List UInt8) (j : Nat) (h : j + 1 + t.length = 24) : (bufCells t)[j]? = some (.int .u8 0) := by
  have e1 : 24 - t.length = j + 1 := by omega
  unfold bufCells
  rw [e1]
  simp [List.getElem?_append]

theorem dig_step (v : Nat) (h : ¬ v < 10) : Lib.decDigits v = Lib.decDigits (v / 10) ++ [UInt8.ofNat (48 + v % 10)] := by
  rw [Lib.decDigits, dif_neg h]
theorem dig_val (v : Nat) : ((UInt8.ofNat (48 + v % 10)).toNat : Int) = 48 + (v : Int) % 10 := by
  have : (UInt8.ofNat (48 + v % 10)).toNat = 48 + v % 10 := by
    simp only [UInt8.toNat_ofNat']
    omega
  rw [this]
  omega
theorem al24 : Tryd.prog.arrayLen 34 = 24 := by kernel_rfl
theorem el24 : Tryd.prog.elem 34 = 5 := by kernel_rfl
theorem run_buf (W : World) (g j : Nat) (hj : j < 24) : (Instr.sliceAt 34 (.pointer (some ⟨g, 0, none⟩)) (some (.int .i64 (j : Int))) none none).run Tryd.prog W = .ok (.slice (some ⟨g, j, none⟩) (24 - j) (24 - j)) W := by
  rw [run_sliceAt_array_l W 34 _ (by rw [al24, el24]; exact Tryd.underlying34) .i64 _ (by omega) (by rw [al24]; omega), el24]
  have hs : (sizeOf 5).run Tryd.prog W = .ok 1 W := by kernel_rfl
  rw [hs, al24]
  have e0 : ¬ (24 = j) := by omega
  simp [Result.andThen, slicedAt, Addr.add, e0]
  omega
theorem run_str (W : World) (g j : Nat) (t : List UInt8) (hj : j + t.length = 24) (hb : IsBlk W g 34 (bufCells t)) :
    (convert 35 9 (.slice (some ⟨g, j, none⟩) (24 - j) (24 - j))).run Tryd.prog W = .ok (.string ⟨t.toArray⟩) W := by
  have e : 24 - j = t.length := by omega
  rw [e]
  refine run_convert_bytes_back W _ _ 5 ⟨g, j, none⟩ _ t Tryd.underlying35 Tryd.underlying5 Tryd.underlying9 (fun i hi => ?_)
  have ea : (⟨g, j, none⟩ : Addr).add i = ⟨g, j + i, none⟩ := by unfold Addr.add; split <;> simp_all
  rw [ea, hb.cell]
  exact buf_at t j i hj hi

set_option maxHeartbeats 1000000 in
theorem itoa_pos (u0 : Nat) (w : World) (hn1 : u0 ≤ 9223372036854775807) :
    Calls Tryd.prog 10 #[.int .i64 u0] w fun e w' => e = .returned (.string ⟨(Lib.decDigits u0).toArray⟩) ∧ Below w.heap.size w w' := by
  have hneg : decide ((u0 : Int) < 0) = false := by simp
  have hlen : (Lib.decDigits u0).length ≤ 21 := by
    have := Lib.itoa_length_le u0 (by omega) (by omega)
    unfold Lib.itoa at this
    rw [if_neg (by omega)] at this
    simpa using this
  go_enter Tryd.func10, Tryd.ntmps10
  go_wp2
  go_loopw [4, 6] (fun u i wr => ∃ (t : List UInt8) (v j : Nat), u = .int .u64 v ∧ i = .int .i64 ((j : Int) + 1) ∧ v ≤ u0 ∧ j + 1 + t.length = 24 ∧ Lib.decDigits v ++ t = Lib.decDigits u0 ∧ IsBlk wr w.heap.size 34 (bufCells t) ∧ Below w.heap.size w wr) (fun u _ _ => (intOf u).toNat)
  case atStart => exact ⟨[], u0, 23, rfl, rfl, Nat.le_refl _, rfl, by simp, (MapKept.heap_alloc w _).1, (Below.refl _ _).alloc (Nat.le_refl _) _⟩
  case round =>
    obtain ⟨t, v, j, rfl, rfl, hv, hj, hd, hblk, hbel⟩ := hrel
    have hc : wr.cell? ⟨w.heap.size, j, none⟩ = some (.int .u8 0) := by rw [hblk.cell]; exact buf_blank t j hj
    have hf := hblk.free j
    have hset := hblk.put j (.int .u8 (UInt8.ofNat (48 + v % 10)).toNat)
    rw [buf_set t j _ hj, dig_val] at hset
    have hbel2 : Below w.heap.size w (wr.setCell ⟨w.heap.size, j, none⟩ (.int .u8 (48 + (v : Int) % 10))) := hbel.setCell (Nat.le_refl _) _
    have hj2 : j ≤ 23 := by omega
    by_cases hv10 : v < 10
    · have htest : ((v : Int) / 10 == 0) = true := by simp; omega
      have ht : UInt8.ofNat (48 + v % 10) :: t = Lib.decDigits u0 := by
        rw [← hd, Lib.decDigits_one hv10, Nat.mod_eq_of_lt hv10]
        rfl
      rw [ht] at hset
      have htl : t.length + 1 = (Lib.decDigits u0).length := by rw [← ht]; rfl
      have hsl := fun W => run_buf W w.heap.size j (by omega)
      have hcv := run_str _ _ j _ (by omega) hset
      have HX := Lib.hid hbel2
      clear hd ht hblk htl hset hbel2
      go_wp2
      go_ret
      exact ⟨rfl, HX.out⟩
    · have htest : ((v : Int) / 10 == 0) = false := by simp; omega
      have hd2 : Lib.decDigits (v / 10) ++ (UInt8.ofNat (48 + v % 10) :: t) = Lib.decDigits u0 := by
        rw [← hd, dig_step v hv10, List.append_assoc]
        rfl
      have hl1 : 1 ≤ (Lib.decDigits (v / 10)).length := by
        rw [Lib.decDigits_length, Lib.nDigits]
        split <;> omega
      have hl2 := congrArg List.length hd2
      simp only [List.length_append, List.length_cons] at hl2
      have HX := Lib.hid hbel2
      have HD := Lib.hid hd2
      have HS := Lib.hid hset
      have HL := Lib.hid hl2
      clear hd hblk hset hbel2 hd2 hl2
      go_wp2
      go_roundw
      case rel =>
        have hl2 := HL.out
        exact ⟨UInt8.ofNat (48 + v % 10) :: t, v / 10, j - 1, by go_num, by congr 1; omega, by omega, by simp; omega, HD.out, HS.out, HX.out⟩
      case measure => simp [intOf]; omega

set_option maxHeartbeats 1000000 in
theorem itoa_negative (u0 : Nat) (w : World) (hn0 : 1 ≤ u0) (hn1 : u0 ≤ 9223372036854775808) :
    Calls Tryd.prog 10 #[.int .i64 (-(u0 : Int))] w fun e w' => e = .returned (.string ⟨(45 :: Lib.decDigits u0).toArray⟩) ∧ Below w.heap.size w w' := by
  have hneg : decide (-(u0 : Int) < 0) = true := by simp; omega
  have hlen : (Lib.decDigits u0).length ≤ 20 := by
    have := Lib.itoa_length_le (-(u0 : Int)) (by omega) (by omega)
    unfold Lib.itoa at this
    rw [if_pos (by omega)] at this
    simpa using this
  go_enter Tryd.func10, Tryd.ntmps10
  go_wp2
  go_loopw [4, 6] (fun u i wr => ∃ (t : List UInt8) (v j : Nat), u = .int .u64 v ∧ i = .int .i64 ((j : Int) + 1) ∧ v ≤ u0 ∧ j + 1 + t.length = 24 ∧ Lib.decDigits v ++ t = Lib.decDigits u0 ∧ IsBlk wr w.heap.size 34 (bufCells t) ∧ Below w.heap.size w wr) (fun u _ _ => (intOf u).toNat)
  case atStart => exact ⟨[], u0, 23, by congr 1; omega, rfl, Nat.le_refl _, rfl, by simp, (MapKept.heap_alloc w _).1, (Below.refl _ _).alloc (Nat.le_refl _) _⟩
  case round =>
    obtain ⟨t, v, j, rfl, rfl, hv, hj, hd, hblk, hbel⟩ := hrel
    have hc : wr.cell? ⟨w.heap.size, j, none⟩ = some (.int .u8 0) := by rw [hblk.cell]; exact buf_blank t j hj
    have hf := hblk.free j
    have hset := hblk.put j (.int .u8 (UInt8.ofNat (48 + v % 10)).toNat)
    rw [buf_set t j _ hj, dig_val] at hset
    have hbel2 : Below w.heap.size w (wr.setCell ⟨w.heap.size, j, none⟩ (.int .u8 (48 + (v : Int) % 10))) := hbel.setCell (Nat.le_refl _) _
    have hj2 : j ≤ 23 := by omega
    by_cases hv10 : v < 10
    · have htest : ((v : Int) / 10 == 0) = true := by simp; omega
      have ht : UInt8.ofNat (48 + v % 10) :: t = Lib.decDigits u0 := by
        rw [← hd, Lib.decDigits_one hv10, Nat.mod_eq_of_lt hv10]
        rfl
      rw [ht] at hset
      have htl : t.length + 1 = (Lib.decDigits u0).length := by rw [← ht]; rfl
      obtain ⟨i, rfl⟩ : ∃ i, j = i + 1 := ⟨j - 1, by omega⟩
      have hset2 := hset.put i (.int .u8 (45 : UInt8).toNat)
      rw [buf_set _ i _ (by omega), show (((45 : UInt8).toNat : Nat) : Int) = 45 from rfl] at hset2
      have hc2 : (wr.setCell ⟨w.heap.size, i + 1, none⟩ (.int .u8 (48 + (v : Int) % 10))).cell? ⟨w.heap.size, i, none⟩ = some (.int .u8 0) := by rw [hset.cell]; exact buf_blank _ i (by omega)
      have hf2 := hset.free i
      have hsl := fun W => run_buf W w.heap.size i (by omega)
      have hcv := run_str _ _ i _ (by simp; omega) hset2
      have HX := Lib.hid (hbel2.setCell (p := ⟨w.heap.size, i, none⟩) (Nat.le_refl _) (.int .u8 45))
      clear hd ht hblk htl hset hset2 hbel2 hbel
      go_wp2
      go_ret
      exact ⟨rfl, HX.out⟩
    · have htest : ((v : Int) / 10 == 0) = false := by simp; omega
      have hd2 : Lib.decDigits (v / 10) ++ (UInt8.ofNat (48 + v % 10) :: t) = Lib.decDigits u0 := by
        rw [← hd, dig_step v hv10, List.append_assoc]
        rfl
      have hl1 : 1 ≤ (Lib.decDigits (v / 10)).length := by
        rw [Lib.decDigits_length, Lib.nDigits]
        split <;> omega
      have hl2 := congrArg List.length hd2
      simp only [List.length_append, List.length_cons] at hl2
      have HX := Lib.hid hbel2
      have HD := Lib.hid hd2
      have HS := Lib.hid hset
      have HL := Lib.hid hl2
      clear hd hblk hset hbel2 hd2 hl2
      go_wp2
      go_roundw
      case rel =>
        have hl2 := HL.out
        exact ⟨UInt8.ofNat (48 + v % 10) :: t, v / 10, j - 1, by go_num, by congr 1; omega, by omega, by simp; omega, HD.out, HS.out, HX.out⟩
      case measure => simp [intOf]; omega

theorem itoa_any (n : Int) (w : World) (hn0 : -9223372036854775808 ≤ n) (hn1 : n ≤ 9223372036854775807) :
    Calls Tryd.prog 10 #[.int .i64 n] w fun e w' => e = .returned (.string ⟨(Lib.itoa n).toArray⟩) ∧ Below w.heap.size w w' := by
  by_cases h : n < 0
  · obtain ⟨u, rfl⟩ : ∃ u : Nat, n = -(u : Int) := ⟨n.natAbs, by omega⟩
    have e : Lib.itoa (-(u : Int)) = 45 :: Lib.decDigits u := by
      unfold Lib.itoa
      rw [if_pos h]
      simp
    rw [e]
    exact itoa_negative u w (by omega) (by omega)
  · obtain ⟨u, rfl⟩ : ∃ u : Nat, n = u := ⟨n.toNat, by omega⟩
    have e : Lib.itoa (u : Int) = Lib.decDigits u := by
      unfold Lib.itoa
      rw [if_neg h]
      simp
    rw [e]
    exact itoa_pos u w (by omega)

end Go.Proofs.YtcbpdhdninafeaaDoor
