/-
  The laws' own helpers: sizes, least, distinct keys. Conditions: as stated.
-/
import Derived.Test.YthlhfhcjfikflaaEq84
namespace Go.Proofs.Ythlhfhcjfikflaa
open Go.RowKit Go.Maps Go.WideMaps
set_option maxRecDepth 100000
set_option linter.unusedVariables false

def BytesP (ks : List (List UInt8)) (w : World) (e : Ending) (w' : World) : Prop :=
  ∃ b : Bool, e = .returned (.bool b) ∧ (b = true → ∀ j, j < ks.length → (ks.getD j []).length ≤ 1048576) ∧ w = w'
theorem BytesP.no {ks : List (List UInt8)} {w : World} : BytesP ks w (.returned (.bool false)) w := ⟨false, rfl, fun h => (nomatch h), rfl⟩

set_option maxHeartbeats 4000000 in
theorem bytes_t (oA oB : Option Addr) (capA capB n m : Nat) (c : Bool) (ks : List (List UInt8)) (w : World) (hns : ks.length = n) (hn : n ≤ 9223372036854775807) (hm : m ≤ 9223372036854775807) (hl : ∀ z ∈ ks, z.length ≤ 9223372036854775807) (hA : RowAt strV w w.heap.size oA ks) :
    Calls Try.prog 6 #[.slice oA n capA, .slice oB m capB, .bool c] w (BytesP ks w) := by
  have HNS := Lib.hid hns
  have HA := Lib.hid hA
  have HL := Lib.hid hl
  clear hns hA hl
  by_cases h1 : n ≤ 1048576
  rotate_left
  · go_enter Try.func6, Try.ntmps6
    go_wp2_with fail
    go_ret
    exact BytesP.no
  go_enter Try.func6, Try.ntmps6
  go_wp2_with fail
  go_loop [7, 8] (fun z i => ∃ (k : Nat) (s : Int), k ≤ n ∧ i = .int .i64 k ∧ z = .int .i64 s ∧ 0 ≤ s ∧ s ≤ 1048576 ∧ ∀ j, j < k → (ks.getD j []).length ≤ 1048576) (fun _ i => n - (intOf i).toNat)
  case atStart => exact ⟨0, _, Nat.zero_le _, rfl, rfl, by omega, by omega, fun j hj => absurd hj (by omega)⟩
  case round =>
    obtain ⟨k, s, hk, rfl, rfl, hs0, hs1, hall⟩ := hrel
    have HAL := Lib.hid hall
    clear hall
    by_cases hlt : k < n
    · obtain ⟨b, o, rfl, hbB, hc⟩ := HA.out.at_ (by have := HNS.out; omega)
      have hkl : k < ks.length := by have := HNS.out; omega
      have c1 : w.cell? ⟨b, o + k, none⟩ = some (.string ⟨(ks.getD k []).toArray⟩) := by
        rw [hc k hkl]
        simp [List.getD, hkl, strV]
      have hy : (ks.getD k []).length ≤ 9223372036854775807 := by
        rw [List.getD, List.getElem?_eq_getElem hkl]
        exact HL.out _ (List.getElem_mem _)
      have hnx : Hid ((ks.getD k []).length ≤ 1048576 → ∀ j, j < k + 1 → (ks.getD j []).length ≤ 1048576) := Lib.hid (fun h j hj => if e : j = k then by rw [e]; exact h else HAL.out j (by omega))
      generalize ks.getD k [] = y at c1 hy hnx
      have hss : (ByteArray.mk y.toArray).size = y.length := by simp [ByteArray.size]
      clear hc hkl
      have tl : decide ((k : Int) < (n : Int)) = true := by simp; omega
      by_cases h2 : y.length ≤ 1048576
      · have HNX := Lib.hid (hnx.out h2)
        clear hnx
        by_cases h3 : s + (y.length : Int) ≤ 1048576
        · go_wp2_with fail
          go_round
          case rel => exact ⟨k + 1, _, by omega, by go_num, rfl, by omega, by omega, HNX.out⟩
          case measure => simp [intOf]; omega
        · go_wp2_with fail
          go_ret
          exact BytesP.no
      · go_wp2_with fail
        go_ret
        exact BytesP.no
    · obtain rfl : k = n := by omega
      have tl : decide ((k : Int) < (k : Int)) = false := by simp
      by_cases h2 : m ≤ 1048576
      · by_cases h3 : s + (m : Int) ≤ 1048576
        · go_wp2_with fail
          go_ret
          exact ⟨true, rfl, fun _ j hj => HAL.out j (by rw [← HNS.out]; exact hj), rfl⟩
        · go_wp2_with fail
          go_ret
          exact BytesP.no
      · go_wp2_with fail
        go_ret
        exact BytesP.no

set_option maxHeartbeats 4000000 in
theorem bytes_c (oA oB : Option Addr) (capA capB n m : Nat) (c : Bool) (ks : List (List UInt8)) (w : World) (hns : ks.length = n) (hn : n ≤ 9223372036854775807) (hm : m ≤ 9223372036854775807) (hl : ∀ z ∈ ks, z.length ≤ 9223372036854775807) (hA : RowAt strV w w.heap.size oA ks) :
    Calls Try.prog 18 #[.slice oA n capA, .slice oB m capB, .bool c] w (BytesP ks w) := by
  have HNS := Lib.hid hns
  have HA := Lib.hid hA
  have HL := Lib.hid hl
  clear hns hA hl
  by_cases h1 : n ≤ 1048576
  rotate_left
  · go_enter Try.func18, Try.ntmps18
    go_wp2_with fail
    go_ret
    exact BytesP.no
  go_enter Try.func18, Try.ntmps18
  go_wp2_with fail
  go_loop [7, 8] (fun z i => ∃ (k : Nat) (s : Int), k ≤ n ∧ i = .int .i64 k ∧ z = .int .i64 s ∧ 0 ≤ s ∧ s ≤ 1048576 ∧ ∀ j, j < k → (ks.getD j []).length ≤ 1048576) (fun _ i => n - (intOf i).toNat)
  case atStart => exact ⟨0, _, Nat.zero_le _, rfl, rfl, by omega, by omega, fun j hj => absurd hj (by omega)⟩
  case round =>
    obtain ⟨k, s, hk, rfl, rfl, hs0, hs1, hall⟩ := hrel
    have HAL := Lib.hid hall
    clear hall
    by_cases hlt : k < n
    · obtain ⟨b, o, rfl, hbB, hc⟩ := HA.out.at_ (by have := HNS.out; omega)
      have hkl : k < ks.length := by have := HNS.out; omega
      have c1 : w.cell? ⟨b, o + k, none⟩ = some (.string ⟨(ks.getD k []).toArray⟩) := by
        rw [hc k hkl]
        simp [List.getD, hkl, strV]
      have hy : (ks.getD k []).length ≤ 9223372036854775807 := by
        rw [List.getD, List.getElem?_eq_getElem hkl]
        exact HL.out _ (List.getElem_mem _)
      have hnx : Hid ((ks.getD k []).length ≤ 1048576 → ∀ j, j < k + 1 → (ks.getD j []).length ≤ 1048576) := Lib.hid (fun h j hj => if e : j = k then by rw [e]; exact h else HAL.out j (by omega))
      generalize ks.getD k [] = y at c1 hy hnx
      have hss : (ByteArray.mk y.toArray).size = y.length := by simp [ByteArray.size]
      clear hc hkl
      have tl : decide ((k : Int) < (n : Int)) = true := by simp; omega
      by_cases h2 : y.length ≤ 1048576
      · have HNX := Lib.hid (hnx.out h2)
        clear hnx
        by_cases h3 : s + (y.length : Int) ≤ 1048576
        · go_wp2_with fail
          go_round
          case rel => exact ⟨k + 1, _, by omega, by go_num, rfl, by omega, by omega, HNX.out⟩
          case measure => simp [intOf]; omega
        · go_wp2_with fail
          go_ret
          exact BytesP.no
      · go_wp2_with fail
        go_ret
        exact BytesP.no
    · obtain rfl : k = n := by omega
      have tl : decide ((k : Int) < (k : Int)) = false := by simp
      by_cases h2 : m ≤ 1048576
      · by_cases h3 : s + (m : Int) ≤ 1048576
        · go_wp2_with fail
          go_ret
          exact ⟨true, rfl, fun _ j hj => HAL.out j (by rw [← HNS.out]; exact hj), rfl⟩
        · go_wp2_with fail
          go_ret
          exact BytesP.no
      · go_wp2_with fail
        go_ret
        exact BytesP.no

set_option maxHeartbeats 4000000 in
theorem bytes_i (oA oB : Option Addr) (capA capB n m : Nat) (ks : List (List UInt8)) (w : World) (hns : ks.length = n) (hn : n ≤ 9223372036854775807) (hm : m ≤ 9223372036854775807) (hl : ∀ z ∈ ks, z.length ≤ 9223372036854775807) (hA : RowAt strV w w.heap.size oA ks) :
    Calls Try.prog 15 #[.slice oA n capA, .slice oB m capB] w (BytesP ks w) := by
  have HNS := Lib.hid hns
  have HA := Lib.hid hA
  have HL := Lib.hid hl
  clear hns hA hl
  by_cases h1 : n ≤ 1048576
  rotate_left
  · go_enter Try.func15, Try.ntmps15
    go_wp2_with fail
    go_ret
    exact BytesP.no
  go_enter Try.func15, Try.ntmps15
  go_wp2_with fail
  go_loop [5, 6] (fun z i => ∃ (k : Nat) (s : Int), k ≤ n ∧ i = .int .i64 k ∧ z = .int .i64 s ∧ 0 ≤ s ∧ s ≤ 1048576 ∧ ∀ j, j < k → (ks.getD j []).length ≤ 1048576) (fun _ i => n - (intOf i).toNat)
  case atStart => exact ⟨0, _, Nat.zero_le _, rfl, rfl, by omega, by omega, fun j hj => absurd hj (by omega)⟩
  case round =>
    obtain ⟨k, s, hk, rfl, rfl, hs0, hs1, hall⟩ := hrel
    have HAL := Lib.hid hall
    clear hall
    by_cases hlt : k < n
    · obtain ⟨b, o, rfl, hbB, hc⟩ := HA.out.at_ (by have := HNS.out; omega)
      have hkl : k < ks.length := by have := HNS.out; omega
      have c1 : w.cell? ⟨b, o + k, none⟩ = some (.string ⟨(ks.getD k []).toArray⟩) := by
        rw [hc k hkl]
        simp [List.getD, hkl, strV]
      have hy : (ks.getD k []).length ≤ 9223372036854775807 := by
        rw [List.getD, List.getElem?_eq_getElem hkl]
        exact HL.out _ (List.getElem_mem _)
      have hnx : Hid ((ks.getD k []).length ≤ 1048576 → ∀ j, j < k + 1 → (ks.getD j []).length ≤ 1048576) := Lib.hid (fun h j hj => if e : j = k then by rw [e]; exact h else HAL.out j (by omega))
      generalize ks.getD k [] = y at c1 hy hnx
      have hss : (ByteArray.mk y.toArray).size = y.length := by simp [ByteArray.size]
      clear hc hkl
      have tl : decide ((k : Int) < (n : Int)) = true := by simp; omega
      by_cases h2 : y.length ≤ 1048576
      · have HNX := Lib.hid (hnx.out h2)
        clear hnx
        by_cases h3 : s + (y.length : Int) ≤ 1048576
        · go_wp2_with fail
          go_round
          case rel => exact ⟨k + 1, _, by omega, by go_num, rfl, by omega, by omega, HNX.out⟩
          case measure => simp [intOf]; omega
        · go_wp2_with fail
          go_ret
          exact BytesP.no
      · go_wp2_with fail
        go_ret
        exact BytesP.no
    · obtain rfl : k = n := by omega
      have tl : decide ((k : Int) < (k : Int)) = false := by simp
      by_cases h2 : m ≤ 1048576
      · by_cases h3 : s + (m : Int) ≤ 1048576
        · go_wp2_with fail
          go_ret
          exact ⟨true, rfl, fun _ j hj => HAL.out j (by rw [← HNS.out]; exact hj), rfl⟩
        · go_wp2_with fail
          go_ret
          exact BytesP.no
      · go_wp2_with fail
        go_ret
        exact BytesP.no

def SomeZ (w : World) (e : Ending) (w' : World) : Prop := ∃ z : Int, e = .returned (.int .i64 z) ∧ 0 ≤ z ∧ z ≤ 9223372036854775807 ∧ w = w'
set_option maxHeartbeats 4000000 in
theorem size_any (oA : Option Addr) (capA n m : Nat) (ks : List (List UInt8)) (w : World) (hns : ks.length = n) (hn : n ≤ 65536) (hm : m ≤ 65536) (hl : ∀ j, j < ks.length → (ks.getD j []).length ≤ 1048576) (hA : RowAt strV w w.heap.size oA ks) :
    Calls Try.prog 7 #[.slice oA n capA, .int .i64 (m : Int), .int .i64 0] w (SomeZ w) := by
  have HNS := Lib.hid hns
  have HA := Lib.hid hA
  have HL := Lib.hid hl
  clear hns hA hl
  have h1 : 8 * (n : Int) + 8 * (m : Int) ≤ 1048576 := by omega
  go_enter Try.func7, Try.ntmps7
  go_wp2_with fail
  go_loop [7, 8] (fun z i => ∃ (k : Nat) (s : Int), k ≤ n ∧ i = .int .i64 k ∧ z = .int .i64 s ∧ 0 ≤ s ∧ s ≤ 1048576) (fun _ i => n - (intOf i).toNat)
  case atStart => exact ⟨0, _, Nat.zero_le _, rfl, rfl, by omega, by omega⟩
  case round =>
    obtain ⟨k, s, hk, rfl, rfl, hs0, hs1⟩ := hrel
    by_cases hlt : k < n
    · obtain ⟨b, o, rfl, hbB, hc⟩ := HA.out.at_ (by have := HNS.out; omega)
      have hkl : k < ks.length := by have := HNS.out; omega
      have c1 : w.cell? ⟨b, o + k, none⟩ = some (.string ⟨(ks.getD k []).toArray⟩) := by
        rw [hc k hkl]
        simp [List.getD, hkl, strV]
      have hy := HL.out k hkl
      generalize ks.getD k [] = y at c1 hy
      have hss : (ByteArray.mk y.toArray).size = y.length := by simp [ByteArray.size]
      clear hc hkl
      have tl : decide ((k : Int) < (n : Int)) = true := by simp; omega
      by_cases h3 : s + (y.length : Int) ≤ 1048576
      · go_wp2_with fail
        go_round
        case rel => exact ⟨k + 1, _, by omega, by go_num, rfl, by omega, by omega⟩
        case measure => simp [intOf]; omega
      · go_wp2_with fail
        go_ret
        exact ⟨_, rfl, by omega, by omega, rfl⟩
    · obtain rfl : k = n := by omega
      have tl : decide ((k : Int) < (k : Int)) = false := by simp
      go_wp2_with fail
      go_ret
      exact ⟨_, rfl, by omega, by omega, rfl⟩
set_option maxHeartbeats 400000 in
theorem min_any (a b n : Nat) (hab : min a b = n) (w : World) (h1 : a ≤ 65536) (h2 : b ≤ 65536) : Calls Try.prog 10 #[.int .i64 (a : Int), .int .i64 (b : Int)] w fun e w' => e = .returned (.int .i64 (n : Int)) ∧ w = w' := by
  by_cases h : a < b
  · obtain rfl : a = n := by omega
    clear hab
    go_enter Try.func10, Try.ntmps10
    go_wp2_with fail
    go_ret
    exact ⟨rfl, rfl⟩
  · obtain rfl : b = n := by omega
    clear hab
    go_enter Try.func10, Try.ntmps10
    go_wp2_with fail
    go_ret
    exact ⟨rfl, rfl⟩
theorem zeroB (w : World) : (zeroValue 4).run Try.prog w = .ok (.bool false) w := by kernel_rfl
theorem plain_bool_inv {v : Value} {z : DataW Unit × List MemPlace} (h : plainElem Try.prog 4 v = some z) : ∃ c : Bool, v = .bool c ∧ z = (.lit (.bool c), []) := by
  unfold plainElem at h
  rw [Try.underlying4] at h
  cases v <;> simp at h
  exact ⟨_, rfl, h.symm⟩
theorem look_bool {w : World} {b n : Nat} {D : DataW Unit} (h : w.ownsMap Try.prog 9 (plainElem Try.prog 4) b n D) (l : List UInt8) (hl : l.length ≤ maxLen) :
    ∃ c : Bool, (Instr.lookup 49 (.map (some b)) (.string ⟨l.toArray⟩) false).run Try.prog w = .ok (.bool c) w ∧ (D = .map [] → c = false) := by
  obtain ⟨v, ps, hrun, hv⟩ := h.lookup lawS Try.underlying49 (zeroB w) (plainElem_bool Try.underlying4 false) (keyS l hl)
  obtain ⟨c, rfl, hc⟩ := plain_bool_inv hv
  refine ⟨c, hrun, fun e => ?_⟩
  subst e
  have := (Prod.mk.inj hc).1
  rw [show (DataW.map [] : DataW Unit).atKey (.string l) (.lit (.bool false)) = .lit (.bool false) from rfl] at this
  cases this
  rfl
def DisP (n : Nat) (w : World) (e : Ending) (w' : World) : Prop := ∃ d : Nat, e = .returned (.int .i64 (d : Int)) ∧ d ≤ n ∧ (d = 0 ↔ n = 0) ∧ Below w.heap.size w w'
set_option maxHeartbeats 4000000 in
theorem dis_any (oK : Option Addr) (nk capK n : Nat) (ks : List (List UInt8)) (w : World) (hnk : ks.length = nk) (hn : n ≤ nk) (hn2 : n ≤ 65536) (hl : ∀ j, j < ks.length → (ks.getD j []).length ≤ 1048576) (hK : RowAt strV w w.heap.size oK ks) :
    Calls Try.prog 19 #[.slice oK nk capK, .int .i64 (n : Int)] w (DisP n w) := by
  have HNS := Lib.hid hnk
  have HA := Lib.hid hK
  have HL := Lib.hid hl
  clear hnk hK hl
  have hmm := @run_makeMap Try.prog
  go_enter Try.func19, Try.ntmps19
  go_wp2_with fail
  go_loopw [6, 7] (fun v6 v7 wr => ∃ (k d : Nat) (D : DataW Unit), k ≤ n ∧ v7 = .int .i64 (k : Int) ∧ v6 = .int .i64 (d : Int) ∧ d ≤ k ∧ (d = 0 → k = 0) ∧ (k = 0 → D = .map []) ∧ wr.ownsMap Try.prog 9 (plainElem Try.prog 4) w.heap.size k D ∧ Below w.heap.size w wr) (fun _ v7 _ => n - (intOf v7).toNat)
  case atStart => exact ⟨0, 0, .map [], Nat.zero_le _, rfl, rfl, Nat.le_refl _, fun _ => rfl, fun _ => rfl, World.ownsMap_made _ _ _ _, (Below.refl _ _).alloc (Nat.le_refl _) _⟩
  case round =>
    obtain ⟨k, d, D, hk, rfl, rfl, hdk, hd0, hk0, hown, hb⟩ := hrel
    clear hmm
    have HD0 := Lib.hid hd0
    have HK0 := Lib.hid hk0
    have HO := Lib.hid hown
    have HB := Lib.hid hb
    by_cases hlt : k < n
    · obtain ⟨b, o, rfl, hbB, hc⟩ := HA.out.at_ (by have := HNS.out; omega)
      have hkl : k < ks.length := by have := HNS.out; omega
      have c1 : wr.cell? ⟨b, o + k, none⟩ = some (.string ⟨(ks.getD k []).toArray⟩) := by
        rw [hb.cell (p := ⟨b, o + k, none⟩) hbB, hc k hkl]
        simp [List.getD, hkl, strV]
      have hy : (ks.getD k []).length ≤ maxLen := by have := HL.out k hkl; unfold maxLen; omega
      generalize ks.getD k [] = y at c1 hy
      obtain ⟨c, hrun, hcf⟩ := look_bool hown y hy
      have HCF := Lib.hid hcf
      have i1 : (k : Int) < (nk : Int) := by omega
      have tl : decide ((k : Int) < (n : Int)) = true := by simp; omega
      clear hc hkl hd0 hk0 hown hb hcf
      rcases c with _ | _
      · go_wp2_with (at_mapUpdate; refine wpList_mapUpdate_own _ rfl _ _ _ 49 rfl 9 4 lawS Try.underlying49 _ w.heap.size k _ rfl HO.out (by unfold maxLen; omega) _ _ _ rfl rfl (keyS y hy) _ [] (plainElem_bool Try.underlying4 true) ?_; intro w1 hown1 hgrow1)
        have HO1 := Lib.hid hown1
        have HB1 := Lib.hid (HB.out.grown hgrow1 HB.out.size (fun j hj => by cases hj; exact Nat.le_refl _))
        clear hown1 hgrow1 hrun
        go_wp2_with fail
        go_roundw
        case rel => exact ⟨k + 1, d + 1, _, hlt, by go_num, by go_num, by omega, fun h => absurd h (by omega), fun h => absurd h (by omega), HO1.out, HB1.out⟩
        case measure => simp [intOf]; omega
      · have hkp : Hid (d = 0 → k + 1 = 0) := Lib.hid (fun h => by have := HCF.out (HK0.out (HD0.out h)); cases this)
        go_wp2_with fail
        go_roundw
        case rel => exact ⟨k + 1, d, D, hlt, by go_num, rfl, by omega, hkp.out, fun h => absurd h (by omega), HO.out.mono (by omega), HB.out⟩
        case measure => simp [intOf]; omega
    · obtain rfl : k = n := by omega
      have tl : decide ((k : Int) < (k : Int)) = false := by simp
      clear hd0 hk0 hown hb
      go_wp2_with fail
      go_ret
      exact ⟨d, rfl, hdk, ⟨HD0.out, fun h => by omega⟩, HB.out⟩
def CloneN {α : Type} (f : α → Value) (l : List α) (n : Nat) (w : World) (e : Ending) (w' : World) : Prop :=
  ∃ oB cap, e = .returned (.slice oB n cap) ∧ RowAt f w' w'.heap.size oB l ∧ Below w.heap.size w w'
theorem CloneN.of {α : Type} {f : α → Value} {l : List α} {n : Nat} {w : World} {e : Ending} {w' : World} (hn : l.length = n) (h : CloneV f l w e w') : CloneN f l n w e w' := by
  obtain ⟨oB, cap, h1, _, h3, h4⟩ := h
  exact ⟨oB, cap, by rw [← hn]; exact h1, h3, h4⟩
theorem EqPost.yes {s1 s2 : Nat} {f1 f2 : MF} {w w' : World} {e : Ending} (h : EqPost s1 s2 f1 f2 w e w') (hm : EqM s1 s2 f1 f2) : e = .returned (.bool true) ∧ Below w.heap.size w w' := by
  obtain ⟨r, rfl, h1, h2⟩ := h
  rw [h1.2 hm]
  exact ⟨rfl, h2⟩
theorem EqPost.no {s1 s2 : Nat} {f1 f2 : MF} {w w' : World} {e : Ending} (h : EqPost s1 s2 f1 f2 w e w') (hm : ¬ EqM s1 s2 f1 f2) : e = .returned (.bool false) ∧ Below w.heap.size w w' := by
  obtain ⟨r, rfl, h1, h2⟩ := h
  cases r
  · exact ⟨rfl, h2⟩
  · exact absurd (h1.1 rfl) hm
theorem BuildPost.mapS {ks : List (List UInt8)} {vs : List Int} {n : Nat} {nm : Bool} {w w' : World} {v : Value} (hn : n ≤ 65536) (h : (nm = true ∧ n = 0 ∧ v = .map none) ∨ (¬ (nm = true ∧ n = 0) ∧ ∃ b D, v = .map (some b) ∧ w.heap.size ≤ b ∧ MI w' b n D (bldF ks vs n))) :
    ∃ s, MapS w' v s (bldF ks vs n) := by
  rcases h with ⟨rfl, rfl, rfl⟩ | ⟨_, b, D, rfl, _, hmi⟩
  · exact ⟨0, Or.inl ⟨rfl, rfl, fun _ => rfl⟩⟩
  · exact ⟨size D, Or.inr ⟨b, n, D, rfl, by omega, rfl, hmi⟩⟩
theorem BuildPost.shape {P Q : Prop} {v : Value} {R : Nat → DataW Unit → Prop} (h : (P ∧ v = .map none) ∨ (Q ∧ ∃ b D, v = .map (some b) ∧ R b D)) : ∃ o, v = .map o := by
  rcases h with ⟨_, rfl⟩ | ⟨_, b, D, rfl, _⟩
  · exact ⟨_, rfl⟩
  · exact ⟨_, rfl⟩
theorem eqm_same {w w' : World} {v v' : Value} {s s' : Nat} {f : MF} (h : MapS w v s f) (h' : MapS w' v' s' f) : EqM s s' f f := ⟨h.size_eq h', fun _ _ h => h⟩
end Go.Proofs.Ythlhfhcjfikflaa
