/-
  The law's own zzItoa computes the decimal text of every int. No conditions.
-/
import Derived.Test.YthkbkghddpkifaaFmtKit
import Derived.Lib.ItoaLen
import Derived.Lib.Hide
import Derived.Laws.BitsAllLaws
import Derived.Laws.IdiomStrings
namespace Go.Proofs.YthkbkghddpkifaaFmt
open Go.RowKit

/-- the buffer after the text t has been written at its end -/
def bufCells (t : List UInt8) : Array Value := ((List.replicate (24 - t.length) (0 : UInt8) ++ t).map fun c => Value.int .u8 c.toNat).toArray
/-- a block known whole -/
def IsBlk (w : World) (g : Nat) (t : TypeId) (cs : Array Value) : Prop := w.heap[g]? = some (.cells cs t (0, 0))
theorem IsBlk.cell {w : World} {g : Nat} {t : TypeId} {cs : Array Value} (h : IsBlk w g t cs) (i : Nat) : w.cell? ⟨g, i, none⟩ = cs[i]? := by
  unfold IsBlk at h
  simp [World.cell?, h]
theorem IsBlk.free {w : World} {g : Nat} {t : TypeId} {cs : Array Value} (h : IsBlk w g t cs) (i : Nat) : w.frozen? ⟨g, i, none⟩ = false := by
  unfold IsBlk at h
  simp [World.frozen?, h]
theorem IsBlk.put {w : World} {g : Nat} {t : TypeId} {cs : Array Value} (h : IsBlk w g t cs) (i : Nat) (u : Value) : IsBlk (w.setCell ⟨g, i, none⟩ u) g t (cs.setIfInBounds i u) := by
  unfold IsBlk at h ⊢
  simp [World.setCell, Array.getElem?_modify, h]

theorem buf_set (t : List UInt8) (j : Nat) (d : UInt8) (h : j + 1 + t.length = 24) : (bufCells t).setIfInBounds j (.int .u8 d.toNat) = bufCells (d :: t) := by
  have e1 : 24 - t.length = j + 1 := by omega
  have e2 : 24 - (d :: t).length = j := by simp; omega
  unfold bufCells
  rw [e1, e2]
  simp [List.replicate_succ', List.setIfInBounds_toArray]
theorem buf_at (t : List UInt8) (j : Nat) (i : Nat) (h : j + t.length = 24) (hi : i < t.length) : (bufCells t)[j + i]? = some (.int .u8 t[i].toNat) := by
  have e1 : 24 - t.length = j := by omega
  unfold bufCells
  rw [e1]
  simp [hi]
theorem buf_blank (t : List UInt8) (j : Nat) (h : j + 1 + t.length = 24) : (bufCells t)[j]? = some (.int .u8 0) := by
  have e1 : 24 - t.length = j + 1 := by omega
  unfold bufCells
  rw [e1]
  simp [List.getElem?_append]

theorem dig_step (v : Nat) (h : ¬ v < 10) : Lib.decDigits v = Lib.decDigits (v / 10) ++ [UInt8.ofNat (48 + v % 10)] := by
  rw [Lib.decDigits, dif_neg h]
theorem dig_val (v : Nat) : ((UInt8.ofNat (48 + v % 10)).toNat : Int) = 48 + (v : Int) % 10 := by
  have : (UInt8.ofNat (48 + v % 10)).toNat = 48 + v % 10 := by
    simp only [UInt8.toNat_ofNat']
    omega
  rw [this]
  omega
theorem al24 : Tryf.prog.arrayLen 30 = 24 := by kernel_rfl
theorem el24 : Tryf.prog.elem 30 = 5 := by kernel_rfl
theorem run_buf (W : World) (g j : Nat) (hj : j < 24) : (Instr.sliceAt 30 (.pointer (some ⟨g, 0, none⟩)) (some (.int .i64 (j : Int))) none none).run Tryf.prog W = .ok (.slice (some ⟨g, j, none⟩) (24 - j) (24 - j)) W := by
  rw [run_sliceAt_array_l W 30 _ (by rw [al24, el24]; exact Tryf.underlying30) .i64 _ (by omega) (by rw [al24]; omega), el24]
  have hs : (sizeOf 5).run Tryf.prog W = .ok 1 W := by kernel_rfl
  rw [hs, al24]
  have e0 : ¬ (24 = j) := by omega
  simp [Result.andThen, slicedAt, Addr.add, e0]
  omega
theorem run_str (W : World) (g j : Nat) (t : List UInt8) (hj : j + t.length = 24) (hb : IsBlk W g 30 (bufCells t)) :
    (convert 31 9 (.slice (some ⟨g, j, none⟩) (24 - j) (24 - j))).run Tryf.prog W = .ok (.string ⟨t.toArray⟩) W := by
  have e : 24 - j = t.length := by omega
  rw [e]
  refine run_convert_bytes_back W _ _ 5 ⟨g, j, none⟩ _ t Tryf.underlying31 Tryf.underlying5 Tryf.underlying9 (fun i hi => ?_)
  have ea : (⟨g, j, none⟩ : Addr).add i = ⟨g, j + i, none⟩ := by unfold Addr.add; split <;> simp_all
  rw [ea, hb.cell]
  exact buf_at t j i hj hi


theorem not_u64 (u0 : Nat) (h0 : 1 ≤ u0) (h1 : u0 ≤ 9223372036854775808) : IntKind.u64.wrap (bits BinOp.xor IntKind.u64 (if IntKind.u64.signed = true then -1 else IntKind.u64.max) (IntKind.u64.wrap (-(u0 : Int))) + 1) = (u0 : Int) := by
  have e1 : IntKind.u64.wrap (-(u0 : Int)) = ((18446744073709551616 - u0 : Nat) : Int) := by
    simp only [IntKind.wrap, IntKind.signed, IntKind.bits]
    simp
    omega
  have e2 : (if IntKind.u64.signed = true then -1 else IntKind.u64.max) = ((18446744073709551615 : Nat) : Int) := by decide
  have e3 : (18446744073709551615 ^^^ (18446744073709551616 - u0) : Nat) = u0 - 1 := by
    have h := BitVec.toNat_not (x := BitVec.ofNat 64 (18446744073709551616 - u0))
    rw [← BitVec.allOnes_xor, BitVec.toNat_xor, BitVec.toNat_allOnes, BitVec.toNat_ofNat, Nat.mod_eq_of_lt (by omega)] at h
    have h2 : (18446744073709551615 ^^^ (18446744073709551616 - u0) : Nat) = 2 ^ 64 - 1 - (18446744073709551616 - u0) := h
    omega
  rw [e1, e2, u64_xor_nat _ _ (by omega) (by omega), e3]
  simp only [IntKind.wrap, IntKind.signed, IntKind.bits]
  simp
  omega
/-- the digits, none of nought -/
def dg (v : Nat) : List UInt8 := if v = 0 then [] else Lib.decDigits v
theorem dg_pos {v : Nat} (h : 1 ≤ v) : dg v = Lib.decDigits v := if_neg (by omega)
theorem dg_step {v : Nat} (h : 1 ≤ v) : dg v = dg (v / 10) ++ [UInt8.ofNat (48 + v % 10)] := by
  rw [dg_pos h]
  by_cases hv : v < 10
  · rw [Lib.decDigits_one hv, show v / 10 = 0 by omega, show v % 10 = v by omega]
    rfl
  · rw [dig_step v hv, dg_pos (by omega)]

set_option maxHeartbeats 1000000 in
theorem itoa_pos (u0 : Nat) (w : World) (hn0 : 1 ≤ u0) (hn1 : u0 ≤ 9223372036854775807) :
    Calls Tryf.prog 6 #[.int .i64 u0] w fun e w' => e = .returned (.string ⟨(Lib.decDigits u0).toArray⟩) ∧ Below w.heap.size w w' := by
  have hneg : decide ((u0 : Int) < 0) = false := by simp
  have hz : ((u0 : Int) == 0) = false := by simp; omega
  have hlen : (Lib.decDigits u0).length ≤ 21 := by
    have := Lib.itoa_length_le u0 (by omega) (by omega)
    unfold Lib.itoa at this
    rw [if_neg (by omega)] at this
    simpa using this
  have hlen1 : 1 ≤ (Lib.decDigits u0).length := by
    rw [Lib.decDigits_length, Lib.nDigits]
    split <;> omega
  go_enter Tryf.func6, Tryf.ntmps6
  go_wp2
  go_loopw [3, 6] (fun u i wr => ∃ (t : List UInt8) (v j : Nat), u = .int .u64 v ∧ i = .int .i64 (j : Int) ∧ v ≤ u0 ∧ j + t.length = 24 ∧ dg v ++ t = Lib.decDigits u0 ∧ IsBlk wr w.heap.size 30 (bufCells t) ∧ Below w.heap.size w wr) (fun u _ _ => (intOf u).toNat)
  case atStart => exact ⟨[], u0, 24, by first | rfl | (congr 1; omega), rfl, Nat.le_refl _, rfl, by rw [dg_pos hn0]; simp, (MapKept.heap_alloc w _).1, (Below.refl _ _).alloc (Nat.le_refl _) _⟩
  case round =>
    obtain ⟨t, v, j, rfl, rfl, hv, hj, hd, hblk, hbel⟩ := hrel
    clear hz
    by_cases hv0 : v = 0
    · subst hv0
      have hd0 : t = Lib.decDigits u0 := hd
      clear hd
      subst hd0
      have hsl := fun W => run_buf W w.heap.size j (by omega)
      have hcv := run_str _ _ j _ (by omega) hblk
      have HX := Lib.hid hbel
      clear hblk hbel
      go_wp2
      go_ret
      exact ⟨rfl, HX.out⟩
    · have hd2 : dg (v / 10) ++ (UInt8.ofNat (48 + v % 10) :: t) = Lib.decDigits u0 := by
        rw [← hd, dg_step (v := v) (by omega), List.append_assoc]
        rfl
      have hl2 := congrArg List.length hd2
      simp only [List.length_append, List.length_cons] at hl2
      obtain ⟨i, rfl⟩ : ∃ i, j = i + 1 := ⟨j - 1, by omega⟩
      have hc : wr.cell? ⟨w.heap.size, i, none⟩ = some (.int .u8 0) := by rw [hblk.cell]; exact buf_blank t i (by omega)
      have hf := hblk.free i
      have hset := hblk.put i (.int .u8 (UInt8.ofNat (48 + v % 10)).toNat)
      rw [buf_set t i _ (by omega), dig_val] at hset
      have hv1 : decide ((v : Int) > 0) = true := by simp; omega
      have hi23 : i ≤ 23 := by omega
      have HX := Lib.hid (hbel.setCell (p := ⟨w.heap.size, i, none⟩) (Nat.le_refl _) (.int .u8 (48 + (v : Int) % 10)))
      have HD := Lib.hid hd2
      have HS := Lib.hid hset
      have HJ := Lib.hid hj
      have hvv : 1 ≤ v := by omega
      clear hd hblk hset hbel hd2 hl2 hj hv0
      go_wp2
      go_roundw
      case rel =>
        have hj := HJ.out
        exact ⟨UInt8.ofNat (48 + v % 10) :: t, v / 10, i, by go_num, by first | rfl | (congr 1; omega), by omega, by simp; omega, HD.out, HS.out, HX.out⟩
      case measure => simp [intOf]; omega

set_option maxHeartbeats 1000000 in
theorem itoa_negative (u0 : Nat) (w : World) (hn0 : 1 ≤ u0) (hn1 : u0 ≤ 9223372036854775808) :
    Calls Tryf.prog 6 #[.int .i64 (-(u0 : Int))] w fun e w' => e = .returned (.string ⟨(45 :: Lib.decDigits u0).toArray⟩) ∧ Below w.heap.size w w' := by
  have hneg : decide (-(u0 : Int) < 0) = true := by simp; omega
  have hz : ((u0 : Int) == 0) = false := by simp; omega
  have hlen : (Lib.decDigits u0).length ≤ 20 := by
    have := Lib.itoa_length_le (-(u0 : Int)) (by omega) (by omega)
    unfold Lib.itoa at this
    rw [if_pos (by omega)] at this
    simpa using this
  have hnot := not_u64 u0 hn0 hn1
  have hlen1 : 1 ≤ (Lib.decDigits u0).length := by
    rw [Lib.decDigits_length, Lib.nDigits]
    split <;> omega
  go_enter Tryf.func6, Tryf.ntmps6
  go_wp2
  go_loopw [3, 6] (fun u i wr => ∃ (t : List UInt8) (v j : Nat), u = .int .u64 v ∧ i = .int .i64 (j : Int) ∧ v ≤ u0 ∧ j + t.length = 24 ∧ dg v ++ t = Lib.decDigits u0 ∧ IsBlk wr w.heap.size 30 (bufCells t) ∧ Below w.heap.size w wr) (fun u _ _ => (intOf u).toNat)
  case atStart => exact ⟨[], u0, 24, by first | rfl | (congr 1; omega), rfl, Nat.le_refl _, rfl, by rw [dg_pos hn0]; simp, (MapKept.heap_alloc w _).1, (Below.refl _ _).alloc (Nat.le_refl _) _⟩
  case round =>
    obtain ⟨t, v, j, rfl, rfl, hv, hj, hd, hblk, hbel⟩ := hrel
    clear hz
    by_cases hv0 : v = 0
    · subst hv0
      have hd0 : t = Lib.decDigits u0 := hd
      clear hd
      subst hd0
      obtain ⟨i, rfl⟩ : ∃ i, j = i + 1 := ⟨j - 1, by omega⟩
      have hc2 : wr.cell? ⟨w.heap.size, i, none⟩ = some (.int .u8 0) := by rw [hblk.cell]; exact buf_blank _ i (by omega)
      have hf2 := hblk.free i
      have hset2 := hblk.put i (.int .u8 (45 : UInt8).toNat)
      rw [buf_set _ i _ (by omega), show (((45 : UInt8).toNat : Nat) : Int) = 45 from rfl] at hset2
      have hsl := fun W => run_buf W w.heap.size i (by omega)
      have hcv := run_str _ _ i _ (by simp; omega) hset2
      have HX := Lib.hid (hbel.setCell (p := ⟨w.heap.size, i, none⟩) (Nat.le_refl _) (.int .u8 45))
      clear hblk hset2 hbel
      go_wp2
      go_ret
      exact ⟨rfl, HX.out⟩
    · have hd2 : dg (v / 10) ++ (UInt8.ofNat (48 + v % 10) :: t) = Lib.decDigits u0 := by
        rw [← hd, dg_step (v := v) (by omega), List.append_assoc]
        rfl
      have hl2 := congrArg List.length hd2
      simp only [List.length_append, List.length_cons] at hl2
      obtain ⟨i, rfl⟩ : ∃ i, j = i + 1 := ⟨j - 1, by omega⟩
      have hc : wr.cell? ⟨w.heap.size, i, none⟩ = some (.int .u8 0) := by rw [hblk.cell]; exact buf_blank t i (by omega)
      have hf := hblk.free i
      have hset := hblk.put i (.int .u8 (UInt8.ofNat (48 + v % 10)).toNat)
      rw [buf_set t i _ (by omega), dig_val] at hset
      have hv1 : decide ((v : Int) > 0) = true := by simp; omega
      have hi23 : i ≤ 23 := by omega
      have HX := Lib.hid (hbel.setCell (p := ⟨w.heap.size, i, none⟩) (Nat.le_refl _) (.int .u8 (48 + (v : Int) % 10)))
      have HD := Lib.hid hd2
      have HS := Lib.hid hset
      have HJ := Lib.hid hj
      have hvv : 1 ≤ v := by omega
      clear hd hblk hset hbel hd2 hl2 hj hv0
      go_wp2
      go_roundw
      case rel =>
        have hj := HJ.out
        exact ⟨UInt8.ofNat (48 + v % 10) :: t, v / 10, i, by go_num, by first | rfl | (congr 1; omega), by omega, by simp; omega, HD.out, HS.out, HX.out⟩
      case measure => simp [intOf]; omega

set_option maxHeartbeats 400000 in
theorem itoa_zero (w : World) : Calls Tryf.prog 6 #[.int .i64 0] w fun e w' => e = .returned (.string ⟨(Lib.itoa 0).toArray⟩) ∧ Below w.heap.size w w' := by
  have e0 : Lib.itoa 0 = [48] := by
    unfold Lib.itoa
    rw [if_neg (by omega), show (0 : Int).toNat = 0 from rfl, Lib.decDigits_one (by omega)]
    rfl
  rw [e0]
  clear e0
  go_enter Tryf.func6, Tryf.ntmps6
  go_wp2
  go_ret
  exact ⟨rfl, Below.refl _ _⟩
theorem itoa_any (n : Int) (w : World) (hn0 : -9223372036854775808 ≤ n) (hn1 : n ≤ 9223372036854775807) :
    Calls Tryf.prog 6 #[.int .i64 n] w fun e w' => e = .returned (.string ⟨(Lib.itoa n).toArray⟩) ∧ Below w.heap.size w w' := by
  by_cases h : n < 0
  · obtain ⟨u, rfl⟩ : ∃ u : Nat, n = -(u : Int) := ⟨n.natAbs, by omega⟩
    have e : Lib.itoa (-(u : Int)) = 45 :: Lib.decDigits u := by
      unfold Lib.itoa
      rw [if_pos h]
      simp
    rw [e]
    exact itoa_negative u w (by omega) (by omega)
  · obtain ⟨u, rfl⟩ : ∃ u : Nat, n = u := ⟨n.toNat, by omega⟩
    have e : Lib.itoa (u : Int) = Lib.decDigits u := by
      unfold Lib.itoa
      rw [if_neg h]
      simp
    rw [e]
    by_cases h0 : u = 0
    · subst h0
      exact itoa_zero w
    · exact itoa_pos u w (by omega) (by omega)

end Go.Proofs.YthkbkghddpkifaaFmt
