/-
  FnBinaryExprStringChainClosedForm, walked. Conditions: the token table reads as laid.
-/
import Derived.Test.YtpdfoofjnoegpaaDoorBd79
namespace Go.Proofs.YtpdfoofjnoegpaaDoor
open Go.RowKit
set_option maxRecDepth 100000
set_option linter.unusedVariables false

def tailL (nm oS : Nat → List UInt8) : Nat → List UInt8
  | 0 => []
  | i + 1 => tailL nm oS i ++ [UInt8.ofNat 32] ++ oS i ++ [UInt8.ofNat 32] ++ nm (i + 1) ++ [UInt8.ofNat 41]
theorem flatL (nm oS : Nat → List UInt8) (i : Nat) : List.replicate i (UInt8.ofNat 40) ++ nm 0 ++ tailL nm oS i = nodeL nm oS i := by
  induction i with
  | zero => simp [tailL, nodeL]
  | succ i ih =>
    rw [nodeL, ← ih, tailL, binT, List.replicate_succ]
    simp
def headR (nm oS : Nat → List UInt8) : Nat → List UInt8
  | 0 => []
  | i + 1 => headR nm oS i ++ [UInt8.ofNat 40] ++ nm i ++ [UInt8.ofNat 32] ++ oS i ++ [UInt8.ofNat 32]
theorem flatR (nm oS : Nat → List UInt8) (last d : Nat) (h : d ≤ last) : headR nm oS (last - d) ++ nodeR nm oS last d ++ List.replicate (last - d) (UInt8.ofNat 41) = headR nm oS last ++ nm last ++ List.replicate last (UInt8.ofNat 41) := by
  induction d with
  | zero => simp [nodeR]
  | succ d ih =>
    rw [← ih (by omega)]
    obtain ⟨q, hq⟩ : ∃ q, last - d = q + 1 := ⟨last - d - 1, by omega⟩
    rw [hq, show last - (d + 1) = q by omega, nodeR, show last - 1 - d = q by omega, headR, List.replicate_succ, binT]
    simp
theorem flatR0 (nm oS : Nat → List UInt8) (last : Nat) : headR nm oS last ++ nm last ++ List.replicate last (UInt8.ofNat 41) = nodeR nm oS last last := by
  rw [← flatR nm oS last last (Nat.le_refl _)]
  simp [headR]
def SomeB (w : World) (e : Ending) (w' : World) : Prop := (∃ b, e = .returned (.bool b)) ∧ w = w'
set_option maxHeartbeats 2000000 in
theorem bytes_79 (oA oB : Option Addr) (capA capB n m : Nat) (c : Bool) (ns : List (List UInt8)) (w : World) (hns : ns.length = n) (hn : n ≤ 9223372036854775807) (hm : m ≤ 9223372036854775807) (hl : ∀ z ∈ ns, z.length ≤ 9223372036854775807) (hA : RowAt strV w w.heap.size oA ns) :
    Calls Tryd.prog 4 #[.slice oA n capA, .slice oB m capB, .bool c] w (SomeB w) := by
  have HNS := Lib.hid hns
  have HA := Lib.hid hA
  have HL := Lib.hid hl
  clear hns hA hl
  by_cases h1 : n ≤ 1048576
  rotate_left
  · go_enter Tryd.func4, Tryd.ntmps4
    go_wp2_with fail
    go_ret
    exact ⟨⟨_, rfl⟩, rfl⟩
  go_enter Tryd.func4, Tryd.ntmps4
  go_wp2_with fail
  go_loop [7, 8] (fun z i => ∃ (k : Nat) (s : Int), k ≤ n ∧ i = .int .i64 k ∧ z = .int .i64 s ∧ 0 ≤ s ∧ s ≤ 1048576) (fun _ i => n - (intOf i).toNat)
  case atStart => exact ⟨0, _, Nat.zero_le _, rfl, rfl, by omega, by omega⟩
  case round =>
    obtain ⟨k, s, hk, rfl, rfl, hs0, hs1⟩ := hrel
    by_cases hlt : k < n
    · obtain ⟨b, o, rfl, hbB, hc⟩ := HA.out.at_ (by have := HNS.out; omega)
      have hkl : k < ns.length := by have := HNS.out; omega
      have c1 : w.cell? ⟨b, o + k, none⟩ = some (.string ⟨ns[k].toArray⟩) := hc k hkl
      have hy := HL.out ns[k] (List.getElem_mem _)
      generalize ns[k] = y at c1 hy
      have hss : (ByteArray.mk y.toArray).size = y.length := by simp [ByteArray.size]
      clear hc hkl
      have tl : decide ((k : Int) < (n : Int)) = true := by simp; omega
      by_cases h2 : y.length ≤ 1048576
      · by_cases h3 : s + (y.length : Int) ≤ 1048576
        · go_wp2_with fail
          go_round
          case rel => exact ⟨k + 1, _, by omega, by go_num, rfl, by omega, by omega⟩
          case measure => simp [intOf]; omega
        · go_wp2_with fail
          go_ret
          exact ⟨⟨_, rfl⟩, rfl⟩
      · go_wp2_with fail
        go_ret
        exact ⟨⟨_, rfl⟩, rfl⟩
    · obtain rfl : k = n := by omega
      have tl : decide ((k : Int) < (k : Int)) = false := by simp
      by_cases h2 : m ≤ 1048576
      · by_cases h3 : s + (m : Int) ≤ 1048576
        · go_wp2_with fail
          go_ret
          exact ⟨⟨_, rfl⟩, rfl⟩
        · go_wp2_with fail
          go_ret
          exact ⟨⟨_, rfl⟩, rfl⟩
      · go_wp2_with fail
        go_ret
        exact ⟨⟨_, rfl⟩, rfl⟩
def CloneN {α : Type} (f : α → Value) (l : List α) (n : Nat) (w : World) (e : Ending) (w' : World) : Prop :=
  ∃ oB cap, e = .returned (.slice oB n cap) ∧ RowAt f w' w'.heap.size oB l ∧ Below w.heap.size w w'
theorem CloneN.of {α : Type} {f : α → Value} {l : List α} {n : Nat} {w : World} {e : Ending} {w' : World} (hn : l.length = n) (h : CloneV f l w e w') : CloneN f l n w e w' := by
  obtain ⟨oB, cap, h1, _, h3, h4⟩ := h
  exact ⟨oB, cap, by rw [← hn]; exact h1, h3, h4⟩
theorem last_cell {w : World} {B d cp p : Nat} {ao : Option Addr} {cs : List Value} (h : w.ownsRow B 29 1 (.slice ao d cp) d (cs ++ [.pointer (some ⟨p, 0, none⟩)])) (hcs : cs.length + 1 = d) : ∃ g, ao = some ⟨g, 0, none⟩ ∧ w.cell? ⟨g, d - 1, none⟩ = some (.pointer (some ⟨p, 0, none⟩)) := by
  rcases h.2 with ⟨h0, h1⟩ | ⟨g, cap, cur, hv, _⟩
  · omega
  · injection hv with e1 _ _
    subst e1
    refine ⟨g, rfl, ?_⟩
    have h1 : (cs ++ [.pointer (some ⟨p, 0, none⟩)])[d - 1]? = some (.pointer (some ⟨p, 0, none⟩)) := by
      rw [List.getElem?_append_right (by omega), show d - 1 - cs.length = 0 by omega]
      rfl
    have := h.cells (g := g) rfl (d - 1) _ h1
    have ea : (⟨g, 0, none⟩ : Addr).add (d - 1) = ⟨g, 0 + (d - 1), none⟩ := by unfold Addr.add; split <;> simp_all
    rw [ea, Nat.zero_add] at this
    exact this

set_option maxHeartbeats 16000000 in
theorem law79_false (oA oB : Option Addr) (capA capB n m : Nat) (ns : List (List UInt8)) (zs : List Int) (w : World) (hns : ns.length = n) (hzs : zs.length = m) (hn : n ≤ 9223372036854775807) (hm : m ≤ 9223372036854775807)
    (hl : ∀ z ∈ ns, z.length ≤ 9223372036854775807) (hr : ∀ z ∈ zs, -9223372036854775808 ≤ z ∧ z ≤ 9223372036854775807) (hk : TokAt w) (hA : RowAt strV w w.heap.size oA ns) (hB : RowAt intV w w.heap.size oB zs) (hnA : oA = none → ns = [] ∧ capA = 0) (hnB : oB = none → zs = [] ∧ capB = 0) :
    Calls Tryd.prog 3 #[.slice oA n capA, .slice oB m capB, .bool false] w fun e w' => e = .returned (.bool true) ∧ Below w.heap.size w w' := by
  have HZB := Lib.hid (bytes_79 oA oB capA capB n m false ns w hns hn hm hl hA)
  have HNS := Lib.hid hns
  have HZS := Lib.hid hzs
  have HA := Lib.hid hA
  have HB := Lib.hid hB
  have HNA := Lib.hid hnA
  have HNB := Lib.hid hnB
  have HL := Lib.hid hl
  have HR := Lib.hid hr
  have HK := Lib.hid hk
  clear hns hzs hA hB hnA hnB hl hr hk
  go_enter Tryd.func3, Tryd.ntmps3
  go_wp2_with (go_at_call 4; refine Hid.out ?_)
  refine Lib.hid ?_
  refine HZB.out.mono ?_
  rintro e w0 ⟨⟨bb, rfl⟩, rfl⟩
  clear HZB
  cases bb
  · go_wp2_with fail
    go_ret
    exact ⟨rfl, Below.refl _ _⟩
  by_cases h1 : n ≤ 256
  rotate_left
  · have t1 : decide ((n : Int) > 256) = true := by simp; omega
    go_wp2_with fail
    go_ret
    exact ⟨rfl, Below.refl _ _⟩
  have t1 : decide ((n : Int) > 256) = false := by simp; omega
  by_cases h2 : m ≤ 4096
  rotate_left
  · have t2 : decide ((m : Int) > 4096) = true := by simp; omega
    go_wp2_with fail
    go_ret
    exact ⟨rfl, Below.refl _ _⟩
  have t2 : decide ((m : Int) > 4096) = false := by simp; omega
  go_wp2_with fail
  clear t1 t2 hn hm
  go_loop [7, 8] (fun z i => ∃ (k : Nat) (s : Int), k ≤ n ∧ i = .int .i64 k ∧ z = .int .i64 s ∧ 0 ≤ s ∧ s ≤ k * 1048576 ∧ ∀ j, j < k → (nmOf ns j).length ≤ 1048576) (fun _ i => n - (intOf i).toNat)
  case atStart => exact ⟨0, _, Nat.zero_le _, rfl, rfl, by omega, by omega, fun j hj => absurd hj (by omega)⟩
  case round =>
    obtain ⟨k, s, hkn, rfl, rfl, hs0, hs1, hall⟩ := hrel
    have HAL := Lib.hid hall
    clear hall
    by_cases hlt : k < n
    · obtain ⟨b, o, rfl, hbB, hc⟩ := HA.out.at_ (by have := HNS.out; omega)
      have hkl : k < ns.length := by have := HNS.out; omega
      have c1 : w.cell? ⟨b, o + k, none⟩ = some (.string ⟨(nmOf ns k).toArray⟩) := row_nm hc k hkl
      have hy : (nmOf ns k).length ≤ 9223372036854775807 := by
        unfold nmOf
        rw [List.getD, List.getElem?_eq_getElem hkl]
        exact HL.out _ (List.getElem_mem _)
      have hnx : Hid ((nmOf ns k).length ≤ 1048576 → ∀ j, j < k + 1 → (nmOf ns j).length ≤ 1048576) := Lib.hid (fun h j hj => if e : j = k then by rw [e]; exact h else HAL.out j (by omega))
      generalize nmOf ns k = y at c1 hy hnx
      have hss : (ByteArray.mk y.toArray).size = y.length := by simp [ByteArray.size]
      clear hc hkl
      have tl : decide ((k : Int) < (n : Int)) = true := by simp; omega
      by_cases h3 : y.length ≤ 1048576
      · have HNX := Lib.hid (hnx.out h3)
        clear hnx
        go_wp2_with fail
        go_round
        case rel => exact ⟨k + 1, _, by omega, by go_num, rfl, by omega, by omega, HNX.out⟩
        case measure => simp [intOf]; omega
      · have t3 : decide ((y.length : Int) > 1048576) = true := by simp; omega
        go_wp2_with fail
        go_ret
        exact ⟨rfl, Below.refl _ _⟩
    · obtain rfl : k = n := by omega
      have tl : decide ((k : Int) < (k : Int)) = false := by simp
      have HNL : Hid (∀ i, (nmOf ns i).length ≤ 1048576) := Lib.hid (fun i => if h : i < k then HAL.out i h else by
        unfold nmOf
        rw [List.getD, List.getElem?_eq_none (by have := HNS.out; omega)]
        simp)
      clear HAL
      by_cases h3 : s ≤ 65536
      rotate_left
      · have t3 : decide (s > 65536) = true := by simp; omega
        go_wp2_with fail
        go_ret
        exact ⟨rfl, Below.refl _ _⟩
      have t3 : decide (s > 65536) = false := by simp; omega
      by_cases h4 : 8 * (k : Int) + 8 * (m : Int) + s ≤ 1048576
      rotate_left
      · have t4 : decide (8 * (k : Int) + 8 * (m : Int) + s > 1048576) = true := by simp; omega
        go_wp2_with fail
        go_ret
        exact ⟨rfl, Below.refl _ _⟩
      have t4 : decide (8 * (k : Int) + 8 * (m : Int) + s > 1048576) = false := by simp; omega
      by_cases h5 : 2 ≤ k
      rotate_left
      · have t5 : decide ((k : Int) < 2) = true := by simp; omega
        go_wp2_with fail
        go_ret
        exact ⟨rfl, Below.refl _ _⟩
      have t5 : decide ((k : Int) < 2) = false := by simp; omega
      by_cases h6 : k ≤ m + 1
      rotate_left
      · have t6 : decide ((m : Int) < (k : Int) - 1) = true := by simp; omega
        go_wp2_with fail
        go_ret
        exact ⟨rfl, Below.refl _ _⟩
      have t6 : decide ((m : Int) < (k : Int) - 1) = false := by simp; omega
      have HCS : Hid (Calls Tryd.prog 5 #[.slice oA k capA] w (CloneN strV ns k w)) := Lib.hid (by
        have h := clS_any oA capA ns w HA.out HNA.out (by have := HNS.out; omega)
        rw [HNS.out] at h
        exact h.mono fun _ _ h => CloneN.of HNS.out h)
      go_wp2_with (go_at_call 5; refine Hid.out ?_)
      refine Lib.hid ?_
      refine HCS.out.mono ?_
      rintro e w1 ⟨oC, capC, rfl, hRA, hb1⟩
      have hRB := HB.out.below hb1
      have HCI : Hid (Calls Tryd.prog 6 #[.slice oB m capB] w1 (CloneN intV zs m w1)) := Lib.hid (by
        have h := clI_any oB capB zs w1 hRB HNB.out (by have := HZS.out; omega) HR.out
        rw [HZS.out] at h
        exact h.mono fun _ _ h => CloneN.of HZS.out h)
      have RA1 := Lib.hid hRA
      have B1 := Lib.hid hb1
      clear hRA hRB hb1 HCS HA HB HNA HNB tl t3 t4 t5 t6
      go_wp2_with (go_at_call 6; refine Hid.out ?_)
      refine Lib.hid ?_
      refine HCI.out.mono ?_
      rintro e w2 ⟨oD, capD, rfl, hRB, hb2⟩
      have RA2 := Lib.hid (RA1.out.below hb2)
      have RB2 := Lib.hid hRB
      have BB2 := Lib.hid (B1.out.trans (hb2.mono B1.out.size))
      have K2 := Lib.hid (HK.out.below HK.out.1 BB2.out)
      clear hRB hb2 HCI RA1 B1
      obtain ⟨d, rfl⟩ : ∃ d, k = d + 2 := ⟨k - 2, by omega⟩
      have HBD : Hid (Calls Tryd.prog 7 #[.slice oC (d + 2) capC, .slice none 0 0, .slice oD m capD, .bool false] w2 (BuildP (nodeL (nmOf ns) (osOf zs) (d + 1)) (d + 1) w2)) := Lib.hid (buildL oC oD capC capD (d + 1) m ns zs w2 HNS.out HZS.out (by omega) (by omega) (by omega) (by omega) HNL.out K2.out RA2.out RB2.out)
      go_wp2_with (go_at_call 7; refine Hid.out ?_)
      refine Lib.hid ?_
      refine HBD.out.mono ?_
      rintro e w3 ⟨ao3, cp3, p3, cs3, rfl, hcs3, hown3, hsay3, hb3⟩
      obtain ⟨g3, rfl, hlast⟩ := last_cell hown3 hcs3
      rw [show d + 1 - 1 = d by omega] at hlast
      have HS3 := Lib.hid (hsay3 w3 (Agree.qt (Qt.refl w3)))
      have RA3 := Lib.hid (RA2.out.below hb3)
      have RB3 := Lib.hid (RB2.out.below hb3)
      have BB3 := Lib.hid (BB2.out.trans (hb3.mono BB2.out.size))
      clear hown3 hcs3 hsay3 hb3 HBD RA2 RB2 BB2 K2
      go_wp2_with (go_at_call 8; refine Hid.out ?_)
      refine Lib.hid ?_
      refine HS3.out.mono ?_
      rintro e w4 ⟨rfl, n4, rfl⟩
      have hq : Qt w3 (w3.drewN n4) := (Qt.refl w3).drewN n4
      have RA4 := Lib.hid (RA3.out.below (hq.below _))
      have RB4 := Lib.hid (RB3.out.below (hq.below _))
      have BB4 := Lib.hid (BB3.out.trans (hq.below _))
      clear hq HS3 hlast RA3 RB3 BB3
      generalize w3.drewN n4 = w4 at RA4 RB4 BB4 ⊢
      obtain ⟨b, o, rfl, hbB, hc⟩ := RA4.out.at_ (by have := HNS.out; omega)
      obtain ⟨b2, o2, rfl, hbB2, hc2⟩ := RB4.out.at_ (by have := HZS.out; omega)
      have RN := Lib.hid (row_nm hc)
      have RZ := Lib.hid (row_z hc2)
      clear hc hc2 RA4 RB4
      have O4 := Lib.hid (OwnB.nil w4 w4.heap.size)
      have B4 := Lib.hid (Below.refl w4.heap.size w4)
      generalize hB0 : w4.heap.size = B0 at O4 B4 hbB hbB2
      have ZZ : Hid (w.heap.size ≤ B0) := Lib.hid (by rw [← hB0]; exact BB4.out.size)
      have Z4 : Hid (B0 ≤ w4.heap.size) := Lib.hid (by omega)
      clear hB0
      go_wp2_with fail
      go_loopw [12, 13] (fun v i wr => ∃ (k m5 : Nat) (ao : Option Addr) (cp : Nat), k ≤ d + 1 ∧ m5 ≤ k ∧ i = .int .i64 k ∧ v = .slice ao m5 cp ∧ OwnB wr B0 v m5 (List.replicate k (UInt8.ofNat 40)) ∧ Below B0 w4 wr ∧ B0 ≤ wr.heap.size) (fun _ i _ => d + 1 - (intOf i).toNat)
      case atStart => exact ⟨0, 0, _, _, Nat.zero_le _, Nat.zero_le _, rfl, rfl, O4.out, B4.out, Z4.out⟩
      case round =>
        obtain ⟨k, m5, ao5, cp5, hk, hm5, rfl, rfl, hown, hbel, hz⟩ := hrel
        have O5 := Lib.hid hown
        have B5 := Lib.hid hbel
        have Z5 := Lib.hid hz
        clear hown hbel hz O4 B4
        by_cases hlt : k < d + 1
        · have tl : decide ((k : Int) < (d : Int) + 2 - 1) = true := by simp; omega
          go_wp2_with (at_builtin; refine Hid.out ?_)
          refine Lib.hid ?_
          refine wp_app_one 40 (by decide) rfl (.tmp 101) (.tmp 102) rfl B0 _ m5 _ rfl O5.out rfl (by omega) Z5.out ?_
          intro ao6 m6 cp6 w6 hm6 ho6 hb6
          have O6 := Lib.hid ho6
          have B6 := Lib.hid (B5.out.trans hb6)
          have Z6 := Lib.hid (Nat.le_trans Z4.out B6.out.size)
          clear ho6 hb6 O5 B5 Z5
          have O6' : Hid (OwnB w6 B0 (.slice ao6 m6 cp6) m6 (List.replicate (k + 1) (UInt8.ofNat 40))) := Lib.hid (by rw [List.replicate_succ']; exact O6.out)
          go_wp2_with fail
          go_roundw
          case rel => exact ⟨k + 1, m6, ao6, cp6, by omega, by omega, by go_num, rfl, O6'.out, B6.out, Z6.out⟩
          case measure => simp [intOf]; omega
        · obtain rfl : k = d + 1 := by omega
          have tl : decide (((d + 1 : Nat) : Int) < (d : Int) + 2 - 1) = false := by simp; omega
          have tl2 : decide ((d : Int) + 1 < (d : Int) + 2 - 1) = false := by simp; omega
          have cn0 : wr.cell? ⟨b, o, none⟩ = some (.string ⟨(nmOf ns 0).toArray⟩) := (B5.out.cell (p := ⟨b, o, none⟩) hbB).trans (RN.out 0 (by have := HNS.out; omega))
          have hn0 := HNL.out 0
          go_wp2_with (at_builtin; refine Hid.out ?_)
          refine Lib.hid ?_
          refine wp_app_str rfl (.tmp 104) (.tmp 107) rfl B0 _ m5 _ rfl O5.out (nmOf ns 0) rfl (by omega) Z5.out ?_
          intro ao6 m6 cp6 w6 hm6 ho6 hb6
          have O6 := Lib.hid ho6
          have B6 := Lib.hid (B5.out.trans hb6)
          have Z6 := Lib.hid (Nat.le_trans Z4.out B6.out.size)
          clear ho6 hb6 O5 B5 Z5
          clear cn0 tl tl2
          go_wp2_with fail
          go_loopw [12, 14] (fun v i wr => ∃ (j m7 : Nat) (ao : Option Addr) (cp : Nat), j ≤ d + 1 ∧ m7 ≤ (j + 2) * 2097152 ∧ i = .int .i64 ((j : Int) + 1) ∧ v = .slice ao m7 cp ∧ OwnB wr B0 v m7 (List.replicate (d + 1) (UInt8.ofNat 40) ++ nmOf ns 0 ++ tailL (nmOf ns) (osOf zs) j) ∧ Below B0 w4 wr ∧ B0 ≤ wr.heap.size) (fun _ i _ => d + 2 - (intOf i).toNat)
          case atStart => exact ⟨0, m6, _, _, Nat.zero_le _, by omega, rfl, rfl, by simpa [tailL] using O6.out, B6.out, Z6.out⟩
          case round =>
            obtain ⟨j, m7, ao7, cp7, hj, hm7, rfl, rfl, hown, hbel, hz⟩ := hrel
            have O7 := Lib.hid hown
            have B7 := Lib.hid hbel
            have Z7 := Lib.hid hz
            clear hown hbel hz O6 B6 Z6
            by_cases hlt : j < d + 1
            · have tl : decide ((j : Int) + 1 < (d : Int) + 2) = true := by simp; omega
              have cz := (B7.out.cell (p := ⟨b2, o2 + j, none⟩) hbB2).trans (RZ.out j (by have := HZS.out; omega))
              have hol := opSt_len (zOf zs j)
              have hnl := HNL.out (j + 1)
              go_wp2_with first | (go_at_call 9; refine (zzOp_any _ _).mono ?_; rintro e wz ⟨rfl, rfl⟩) | (at_builtin; refine Hid.out ?_)
              refine Lib.hid ?_
              refine wp_app_one 32 (by decide) rfl (.tmp 123) (.tmp 124) rfl B0 _ m7 _ rfl O7.out rfl (by omega) Z7.out ?_
              intro ao8 m8 cp8 w8 hm8 ho8 hb8
              have O8 := Lib.hid ho8
              have B8 := Lib.hid (B7.out.trans hb8)
              have Z8 := Lib.hid (Nat.le_trans Z4.out B8.out.size)
              clear ho8 hb8 O7 B7 Z7
              go_wp2_with (at_builtin; refine Hid.out ?_)
              refine Lib.hid ?_
              refine wp_app_str rfl (.tmp 126) (.tmp 127) rfl B0 _ m8 _ rfl O8.out (opSt (zOf zs j)) rfl (by omega) Z8.out ?_
              intro ao9 m9 cp9 w9 hm9 ho9 hb9
              have O9 := Lib.hid ho9
              have B9 := Lib.hid (B8.out.trans hb9)
              have Z9 := Lib.hid (Nat.le_trans Z4.out B9.out.size)
              clear ho9 hb9 O8 B8 Z8
              go_wp2_with (at_builtin; refine Hid.out ?_)
              refine Lib.hid ?_
              refine wp_app_one 32 (by decide) rfl (.tmp 129) (.tmp 130) rfl B0 _ m9 _ rfl O9.out rfl (by omega) Z9.out ?_
              intro ao10 m10 cp10 w10 hm10 ho10 hb10
              have O10 := Lib.hid ho10
              have B10 := Lib.hid (B9.out.trans hb10)
              have Z10 := Lib.hid (Nat.le_trans Z4.out B10.out.size)
              clear ho10 hb10 O9 B9 Z9
              have cn : w10.cell? ⟨b, o + (j + 1), none⟩ = some (.string ⟨(nmOf ns (j + 1)).toArray⟩) := (B10.out.cell (p := ⟨b, o + (j + 1), none⟩) hbB).trans (RN.out (j + 1) (by have := HNS.out; omega))
              go_wp2_with (at_builtin; refine Hid.out ?_)
              refine Lib.hid ?_
              refine wp_app_str rfl (.tmp 132) (.tmp 136) rfl B0 _ m10 _ rfl O10.out (nmOf ns (j + 1)) rfl (by omega) Z10.out ?_
              intro ao11 m11 cp11 w11 hm11 ho11 hb11
              have O11 := Lib.hid ho11
              have B11 := Lib.hid (B10.out.trans hb11)
              have Z11 := Lib.hid (Nat.le_trans Z4.out B11.out.size)
              clear ho11 hb11 O10 B10 Z10
              clear cn
              go_wp2_with (at_builtin; refine Hid.out ?_)
              refine Lib.hid ?_
              refine wp_app_one 41 (by decide) rfl (.tmp 138) (.tmp 139) rfl B0 _ m11 _ rfl O11.out rfl (by omega) Z11.out ?_
              intro ao12 m12 cp12 w12 hm12 ho12 hb12
              have O12 := Lib.hid ho12
              have B12 := Lib.hid (B11.out.trans hb12)
              have Z12 := Lib.hid (Nat.le_trans Z4.out B12.out.size)
              clear ho12 hb12 O11 B11 Z11
              have O12' : Hid (OwnB w12 B0 (.slice ao12 m12 cp12) m12 (List.replicate (d + 1) (UInt8.ofNat 40) ++ nmOf ns 0 ++ tailL (nmOf ns) (osOf zs) (j + 1))) := Lib.hid (by simp only [tailL, ← List.append_assoc]; exact O12.out)
              clear cz tl O12
              go_wp2_with fail
              go_roundw
              case rel => exact ⟨j + 1, m12, ao12, cp12, by omega, by omega, by go_num, rfl, O12'.out, B12.out, Z12.out⟩
              case measure => simp [intOf]; omega
            · obtain rfl : j = d + 1 := by omega
              have tl : decide (((d + 1 : Nat) : Int) + 1 < (d : Int) + 2) = false := by simp; omega
              have tl2 : decide ((d : Int) + 1 + 1 < (d : Int) + 2) = false := by simp; omega
              have O8 : Hid (OwnB wr B0 (.slice ao7 m7 cp7) m7 (nodeL (nmOf ns) (osOf zs) (d + 1))) := Lib.hid (by rw [← flatL]; exact O7.out)
              have htx := O8.out.txt
              clear O7
              go_wp2_with fail
              go_ret
              exact ⟨rfl, BB4.out.trans (B7.out.mono ZZ.out)⟩

set_option maxHeartbeats 16000000 in
theorem law79_true (oA oB : Option Addr) (capA capB n m : Nat) (ns : List (List UInt8)) (zs : List Int) (w : World) (hns : ns.length = n) (hzs : zs.length = m) (hn : n ≤ 9223372036854775807) (hm : m ≤ 9223372036854775807)
    (hl : ∀ z ∈ ns, z.length ≤ 9223372036854775807) (hr : ∀ z ∈ zs, -9223372036854775808 ≤ z ∧ z ≤ 9223372036854775807) (hk : TokAt w) (hA : RowAt strV w w.heap.size oA ns) (hB : RowAt intV w w.heap.size oB zs) (hnA : oA = none → ns = [] ∧ capA = 0) (hnB : oB = none → zs = [] ∧ capB = 0) :
    Calls Tryd.prog 3 #[.slice oA n capA, .slice oB m capB, .bool true] w fun e w' => e = .returned (.bool true) ∧ Below w.heap.size w w' := by
  have HZB := Lib.hid (bytes_79 oA oB capA capB n m true ns w hns hn hm hl hA)
  have HNS := Lib.hid hns
  have HZS := Lib.hid hzs
  have HA := Lib.hid hA
  have HB := Lib.hid hB
  have HNA := Lib.hid hnA
  have HNB := Lib.hid hnB
  have HL := Lib.hid hl
  have HR := Lib.hid hr
  have HK := Lib.hid hk
  clear hns hzs hA hB hnA hnB hl hr hk
  go_enter Tryd.func3, Tryd.ntmps3
  go_wp2_with (go_at_call 4; refine Hid.out ?_)
  refine Lib.hid ?_
  refine HZB.out.mono ?_
  rintro e w0 ⟨⟨bb, rfl⟩, rfl⟩
  clear HZB
  cases bb
  · go_wp2_with fail
    go_ret
    exact ⟨rfl, Below.refl _ _⟩
  by_cases h1 : n ≤ 256
  rotate_left
  · have t1 : decide ((n : Int) > 256) = true := by simp; omega
    go_wp2_with fail
    go_ret
    exact ⟨rfl, Below.refl _ _⟩
  have t1 : decide ((n : Int) > 256) = false := by simp; omega
  by_cases h2 : m ≤ 4096
  rotate_left
  · have t2 : decide ((m : Int) > 4096) = true := by simp; omega
    go_wp2_with fail
    go_ret
    exact ⟨rfl, Below.refl _ _⟩
  have t2 : decide ((m : Int) > 4096) = false := by simp; omega
  go_wp2_with fail
  clear t1 t2 hn hm
  go_loop [7, 8] (fun z i => ∃ (k : Nat) (s : Int), k ≤ n ∧ i = .int .i64 k ∧ z = .int .i64 s ∧ 0 ≤ s ∧ s ≤ k * 1048576 ∧ ∀ j, j < k → (nmOf ns j).length ≤ 1048576) (fun _ i => n - (intOf i).toNat)
  case atStart => exact ⟨0, _, Nat.zero_le _, rfl, rfl, by omega, by omega, fun j hj => absurd hj (by omega)⟩
  case round =>
    obtain ⟨k, s, hkn, rfl, rfl, hs0, hs1, hall⟩ := hrel
    have HAL := Lib.hid hall
    clear hall
    by_cases hlt : k < n
    · obtain ⟨b, o, rfl, hbB, hc⟩ := HA.out.at_ (by have := HNS.out; omega)
      have hkl : k < ns.length := by have := HNS.out; omega
      have c1 : w.cell? ⟨b, o + k, none⟩ = some (.string ⟨(nmOf ns k).toArray⟩) := row_nm hc k hkl
      have hy : (nmOf ns k).length ≤ 9223372036854775807 := by
        unfold nmOf
        rw [List.getD, List.getElem?_eq_getElem hkl]
        exact HL.out _ (List.getElem_mem _)
      have hnx : Hid ((nmOf ns k).length ≤ 1048576 → ∀ j, j < k + 1 → (nmOf ns j).length ≤ 1048576) := Lib.hid (fun h j hj => if e : j = k then by rw [e]; exact h else HAL.out j (by omega))
      generalize nmOf ns k = y at c1 hy hnx
      have hss : (ByteArray.mk y.toArray).size = y.length := by simp [ByteArray.size]
      clear hc hkl
      have tl : decide ((k : Int) < (n : Int)) = true := by simp; omega
      by_cases h3 : y.length ≤ 1048576
      · have HNX := Lib.hid (hnx.out h3)
        clear hnx
        go_wp2_with fail
        go_round
        case rel => exact ⟨k + 1, _, by omega, by go_num, rfl, by omega, by omega, HNX.out⟩
        case measure => simp [intOf]; omega
      · have t3 : decide ((y.length : Int) > 1048576) = true := by simp; omega
        go_wp2_with fail
        go_ret
        exact ⟨rfl, Below.refl _ _⟩
    · obtain rfl : k = n := by omega
      have tl : decide ((k : Int) < (k : Int)) = false := by simp
      have HNL : Hid (∀ i, (nmOf ns i).length ≤ 1048576) := Lib.hid (fun i => if h : i < k then HAL.out i h else by
        unfold nmOf
        rw [List.getD, List.getElem?_eq_none (by have := HNS.out; omega)]
        simp)
      clear HAL
      by_cases h3 : s ≤ 65536
      rotate_left
      · have t3 : decide (s > 65536) = true := by simp; omega
        go_wp2_with fail
        go_ret
        exact ⟨rfl, Below.refl _ _⟩
      have t3 : decide (s > 65536) = false := by simp; omega
      by_cases h4 : 8 * (k : Int) + 8 * (m : Int) + s ≤ 1048576
      rotate_left
      · have t4 : decide (8 * (k : Int) + 8 * (m : Int) + s > 1048576) = true := by simp; omega
        go_wp2_with fail
        go_ret
        exact ⟨rfl, Below.refl _ _⟩
      have t4 : decide (8 * (k : Int) + 8 * (m : Int) + s > 1048576) = false := by simp; omega
      by_cases h5 : 2 ≤ k
      rotate_left
      · have t5 : decide ((k : Int) < 2) = true := by simp; omega
        go_wp2_with fail
        go_ret
        exact ⟨rfl, Below.refl _ _⟩
      have t5 : decide ((k : Int) < 2) = false := by simp; omega
      by_cases h6 : k ≤ m + 1
      rotate_left
      · have t6 : decide ((m : Int) < (k : Int) - 1) = true := by simp; omega
        go_wp2_with fail
        go_ret
        exact ⟨rfl, Below.refl _ _⟩
      have t6 : decide ((m : Int) < (k : Int) - 1) = false := by simp; omega
      have HCS : Hid (Calls Tryd.prog 5 #[.slice oA k capA] w (CloneN strV ns k w)) := Lib.hid (by
        have h := clS_any oA capA ns w HA.out HNA.out (by have := HNS.out; omega)
        rw [HNS.out] at h
        exact h.mono fun _ _ h => CloneN.of HNS.out h)
      go_wp2_with (go_at_call 5; refine Hid.out ?_)
      refine Lib.hid ?_
      refine HCS.out.mono ?_
      rintro e w1 ⟨oC, capC, rfl, hRA, hb1⟩
      have hRB := HB.out.below hb1
      have HCI : Hid (Calls Tryd.prog 6 #[.slice oB m capB] w1 (CloneN intV zs m w1)) := Lib.hid (by
        have h := clI_any oB capB zs w1 hRB HNB.out (by have := HZS.out; omega) HR.out
        rw [HZS.out] at h
        exact h.mono fun _ _ h => CloneN.of HZS.out h)
      have RA1 := Lib.hid hRA
      have B1 := Lib.hid hb1
      clear hRA hRB hb1 HCS HA HB HNA HNB tl t3 t4 t5 t6
      go_wp2_with (go_at_call 6; refine Hid.out ?_)
      refine Lib.hid ?_
      refine HCI.out.mono ?_
      rintro e w2 ⟨oD, capD, rfl, hRB, hb2⟩
      have RA2 := Lib.hid (RA1.out.below hb2)
      have RB2 := Lib.hid hRB
      have BB2 := Lib.hid (B1.out.trans (hb2.mono B1.out.size))
      have K2 := Lib.hid (HK.out.below HK.out.1 BB2.out)
      clear hRB hb2 HCI RA1 B1
      obtain ⟨d, rfl⟩ : ∃ d, k = d + 2 := ⟨k - 2, by omega⟩
      have HBD : Hid (Calls Tryd.prog 7 #[.slice oC (d + 2) capC, .slice none 0 0, .slice oD m capD, .bool true] w2 (BuildP (nodeR (nmOf ns) (osOf zs) (d + 1) (d + 1)) (d + 1) w2)) := Lib.hid (buildR oC oD capC capD d m ns zs w2 HNS.out HZS.out (by omega) (by omega) (by omega) HNL.out K2.out RA2.out RB2.out)
      go_wp2_with (go_at_call 7; refine Hid.out ?_)
      refine Lib.hid ?_
      refine HBD.out.mono ?_
      rintro e w3 ⟨ao3, cp3, p3, cs3, rfl, hcs3, hown3, hsay3, hb3⟩
      obtain ⟨g3, rfl, hlast⟩ := last_cell hown3 hcs3
      rw [show d + 1 - 1 = d by omega] at hlast
      have HS3 := Lib.hid (hsay3 w3 (Agree.qt (Qt.refl w3)))
      have RA3 := Lib.hid (RA2.out.below hb3)
      have RB3 := Lib.hid (RB2.out.below hb3)
      have BB3 := Lib.hid (BB2.out.trans (hb3.mono BB2.out.size))
      clear hown3 hcs3 hsay3 hb3 HBD RA2 RB2 BB2 K2
      go_wp2_with (go_at_call 8; refine Hid.out ?_)
      refine Lib.hid ?_
      refine HS3.out.mono ?_
      rintro e w4 ⟨rfl, n4, rfl⟩
      have hq : Qt w3 (w3.drewN n4) := (Qt.refl w3).drewN n4
      have RA4 := Lib.hid (RA3.out.below (hq.below _))
      have RB4 := Lib.hid (RB3.out.below (hq.below _))
      have BB4 := Lib.hid (BB3.out.trans (hq.below _))
      clear hq HS3 hlast RA3 RB3 BB3
      generalize w3.drewN n4 = w4 at RA4 RB4 BB4 ⊢
      obtain ⟨b, o, rfl, hbB, hc⟩ := RA4.out.at_ (by have := HNS.out; omega)
      obtain ⟨b2, o2, rfl, hbB2, hc2⟩ := RB4.out.at_ (by have := HZS.out; omega)
      have RN := Lib.hid (row_nm hc)
      have RZ := Lib.hid (row_z hc2)
      clear hc hc2 RA4 RB4
      have O4 := Lib.hid (OwnB.nil w4 w4.heap.size)
      have B4 := Lib.hid (Below.refl w4.heap.size w4)
      generalize hB0 : w4.heap.size = B0 at O4 B4 hbB hbB2
      have ZZ : Hid (w.heap.size ≤ B0) := Lib.hid (by rw [← hB0]; exact BB4.out.size)
      have Z4 : Hid (B0 ≤ w4.heap.size) := Lib.hid (by omega)
      clear hB0
      go_wp2_with fail
      go_loopw [12, 17] (fun v i wr => ∃ (k m5 : Nat) (ao : Option Addr) (cp : Nat), k ≤ d + 1 ∧ m5 ≤ (k + 1) * 2097152 ∧ i = .int .i64 k ∧ v = .slice ao m5 cp ∧ OwnB wr B0 v m5 (headR (nmOf ns) (osOf zs) k) ∧ Below B0 w4 wr ∧ B0 ≤ wr.heap.size) (fun _ i _ => d + 1 - (intOf i).toNat)
      case atStart => exact ⟨0, 0, _, _, Nat.zero_le _, Nat.zero_le _, rfl, rfl, O4.out, B4.out, Z4.out⟩
      case round =>
        obtain ⟨k, m5, ao5, cp5, hk, hm5, rfl, rfl, hown, hbel, hz⟩ := hrel
        have O5 := Lib.hid hown
        have B5 := Lib.hid hbel
        have Z5 := Lib.hid hz
        clear hown hbel hz O4 B4
        by_cases hlt : k < d + 1
        · have tl : decide ((k : Int) < (d : Int) + 2 - 1) = true := by simp; omega
          have cz := (B5.out.cell (p := ⟨b2, o2 + k, none⟩) hbB2).trans (RZ.out k (by have := HZS.out; omega))
          have hol := opSt_len (zOf zs k)
          have hnl := HNL.out k
          go_wp2_with first | (go_at_call 9; refine (zzOp_any _ _).mono ?_; rintro e wz ⟨rfl, rfl⟩) | (at_builtin; refine Hid.out ?_)
          refine Lib.hid ?_
          refine wp_app_one 40 (by decide) rfl (.tmp 155) (.tmp 156) rfl B0 _ m5 _ rfl O5.out rfl (by omega) Z5.out ?_
          intro ao6 m6 cp6 w6 hm6 ho6 hb6
          have O6 := Lib.hid ho6
          have B6 := Lib.hid (B5.out.trans hb6)
          have Z6 := Lib.hid (Nat.le_trans Z4.out B6.out.size)
          clear ho6 hb6 O5 B5 Z5
          have cn : w6.cell? ⟨b, o + k, none⟩ = some (.string ⟨(nmOf ns k).toArray⟩) := (B6.out.cell (p := ⟨b, o + k, none⟩) hbB).trans (RN.out k (by have := HNS.out; omega))
          go_wp2_with (at_builtin; refine Hid.out ?_)
          refine Lib.hid ?_
          refine wp_app_str rfl (.tmp 158) (.tmp 162) rfl B0 _ m6 _ rfl O6.out (nmOf ns k) rfl (by omega) Z6.out ?_
          intro ao7 m7 cp7 w7 hm7 ho7 hb7
          have O7 := Lib.hid ho7
          have B7 := Lib.hid (B6.out.trans hb7)
          have Z7 := Lib.hid (Nat.le_trans Z4.out B7.out.size)
          clear ho7 hb7 O6 B6 Z6
          clear cn
          go_wp2_with (at_builtin; refine Hid.out ?_)
          refine Lib.hid ?_
          refine wp_app_one 32 (by decide) rfl (.tmp 164) (.tmp 165) rfl B0 _ m7 _ rfl O7.out rfl (by omega) Z7.out ?_
          intro ao8 m8 cp8 w8 hm8 ho8 hb8
          have O8 := Lib.hid ho8
          have B8 := Lib.hid (B7.out.trans hb8)
          have Z8 := Lib.hid (Nat.le_trans Z4.out B8.out.size)
          clear ho8 hb8 O7 B7 Z7
          go_wp2_with (at_builtin; refine Hid.out ?_)
          refine Lib.hid ?_
          refine wp_app_str rfl (.tmp 167) (.tmp 168) rfl B0 _ m8 _ rfl O8.out (opSt (zOf zs k)) rfl (by omega) Z8.out ?_
          intro ao9 m9 cp9 w9 hm9 ho9 hb9
          have O9 := Lib.hid ho9
          have B9 := Lib.hid (B8.out.trans hb9)
          have Z9 := Lib.hid (Nat.le_trans Z4.out B9.out.size)
          clear ho9 hb9 O8 B8 Z8
          go_wp2_with (at_builtin; refine Hid.out ?_)
          refine Lib.hid ?_
          refine wp_app_one 32 (by decide) rfl (.tmp 170) (.tmp 171) rfl B0 _ m9 _ rfl O9.out rfl (by omega) Z9.out ?_
          intro ao10 m10 cp10 w10 hm10 ho10 hb10
          have O10 := Lib.hid ho10
          have B10 := Lib.hid (B9.out.trans hb10)
          have Z10 := Lib.hid (Nat.le_trans Z4.out B10.out.size)
          clear ho10 hb10 O9 B9 Z9
          have O10' : Hid (OwnB w10 B0 (.slice ao10 m10 cp10) m10 (headR (nmOf ns) (osOf zs) (k + 1))) := Lib.hid (by simp only [headR]; exact O10.out)
          clear cz tl O10
          go_wp2_with fail
          go_roundw
          case rel => exact ⟨k + 1, m10, ao10, cp10, by omega, by omega, by go_num, rfl, O10'.out, B10.out, Z10.out⟩
          case measure => simp [intOf]; omega
        · obtain rfl : k = d + 1 := by omega
          have tl : decide (((d + 1 : Nat) : Int) < (d : Int) + 2 - 1) = false := by simp; omega
          have tl2 : decide ((d : Int) + 1 < (d : Int) + 2 - 1) = false := by simp; omega
          have hix : ((d : Int) + 2 - 1).toNat = d + 1 := by omega
          have cn0 : wr.cell? ⟨b, o + (d + 1), none⟩ = some (.string ⟨(nmOf ns (d + 1)).toArray⟩) := (B5.out.cell (p := ⟨b, o + (d + 1), none⟩) hbB).trans (RN.out (d + 1) (by have := HNS.out; omega))
          have hn0 := HNL.out (d + 1)
          go_wp2_with (at_builtin; refine Hid.out ?_)
          refine Lib.hid ?_
          refine wp_app_str rfl (.tmp 173) (.tmp 178) rfl B0 _ m5 _ rfl O5.out (nmOf ns (d + 1)) rfl (by omega) Z5.out ?_
          intro ao6 m6 cp6 w6 hm6 ho6 hb6
          have O6 := Lib.hid ho6
          have B6 := Lib.hid (B5.out.trans hb6)
          have Z6 := Lib.hid (Nat.le_trans Z4.out B6.out.size)
          clear ho6 hb6 O5 B5 Z5
          clear cn0 tl tl2 hix
          go_wp2_with fail
          go_loopw [12, 20] (fun v i wr => ∃ (j m7 : Nat) (ao : Option Addr) (cp : Nat), j ≤ d + 1 ∧ m7 ≤ (d + 4) * 2097152 + j ∧ i = .int .i64 (j : Int) ∧ v = .slice ao m7 cp ∧ OwnB wr B0 v m7 (headR (nmOf ns) (osOf zs) (d + 1) ++ nmOf ns (d + 1) ++ List.replicate j (UInt8.ofNat 41)) ∧ Below B0 w4 wr ∧ B0 ≤ wr.heap.size) (fun _ i _ => d + 2 - (intOf i).toNat)
          case atStart => exact ⟨0, m6, _, _, Nat.zero_le _, by omega, rfl, rfl, by simpa using O6.out, B6.out, Z6.out⟩
          case round =>
            obtain ⟨j, m7, ao7, cp7, hj, hm7, rfl, rfl, hown, hbel, hz⟩ := hrel
            have O7 := Lib.hid hown
            have B7 := Lib.hid hbel
            have Z7 := Lib.hid hz
            clear hown hbel hz O6 B6 Z6
            by_cases hlt : j < d + 1
            · have tl : decide ((j : Int) < (d : Int) + 2 - 1) = true := by simp; omega
              go_wp2_with (at_builtin; refine Hid.out ?_)
              refine Lib.hid ?_
              refine wp_app_one 41 (by decide) rfl (.tmp 186) (.tmp 187) rfl B0 _ m7 _ rfl O7.out rfl (by omega) Z7.out ?_
              intro ao8 m8 cp8 w8 hm8 ho8 hb8
              have O8 := Lib.hid ho8
              have B8 := Lib.hid (B7.out.trans hb8)
              have Z8 := Lib.hid (Nat.le_trans Z4.out B8.out.size)
              clear ho8 hb8 O7 B7 Z7
              have O8' : Hid (OwnB w8 B0 (.slice ao8 m8 cp8) m8 (headR (nmOf ns) (osOf zs) (d + 1) ++ nmOf ns (d + 1) ++ List.replicate (j + 1) (UInt8.ofNat 41))) := Lib.hid (by rw [List.replicate_succ', ← List.append_assoc]; exact O8.out)
              clear tl O8
              go_wp2_with fail
              go_roundw
              case rel => exact ⟨j + 1, m8, ao8, cp8, by omega, by omega, by go_num, rfl, O8'.out, B8.out, Z8.out⟩
              case measure => simp [intOf]; omega
            · obtain rfl : j = d + 1 := by omega
              have tl : decide (((d + 1 : Nat) : Int) < (d : Int) + 2 - 1) = false := by simp; omega
              have tl2 : decide ((d : Int) + 1 < (d : Int) + 2 - 1) = false := by simp; omega
              have O8 : Hid (OwnB wr B0 (.slice ao7 m7 cp7) m7 (nodeR (nmOf ns) (osOf zs) (d + 1) (d + 1))) := Lib.hid (by rw [← flatR0]; exact O7.out)
              have htx := O8.out.txt
              clear O7
              go_wp2_with fail
              go_ret
              exact ⟨rfl, BB4.out.trans (B7.out.mono ZZ.out)⟩
end Go.Proofs.YtpdfoofjnoegpaaDoor
