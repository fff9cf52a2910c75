/-
  The law FnSwitch4Exact, walked: true at every input. Conditions: none beside the two tables of unicode/utf8, which the card ties.
-/
import Derived.Test.YtnddjmbgcaoccaaFmtSwC
namespace Go.Proofs.YtnddjmbgcaoccaaFmt
open Go.RowKit
set_option linter.unusedVariables false

set_option maxHeartbeats 1000000 in
theorem sl4_hit (src : List UInt8) (k : Nat) (w : World) (t0 t1 c2 t2 t3 : Int) (htab : Lib.Utf8Tabs 0 1 w) (hg : 0 < w.heap.size ∧ 1 < w.heap.size) (hn : src.length ≤ 65536) (hk : k ≤ 65536) (hc0 : 0 ≤ c2) (hc1 : c2 ≤ 127)
    (o : Nat) (ho : (nxs src k (stNew src 0)).off = o) (hol : o ≤ src.length) (hch : (nxs src k (stNew src 0)).ch = 61) (hlt : o < src.length) (hb : bt src o = 61) (hw : (nxs src k (stNew src 0)).rd = o + 1) (hrd : o + 1 ≤ src.length)  :
    Calls Tryf.prog 5 #[.string ⟨src.toArray⟩, .int .i64 k, .int .i64 t0, .int .i64 t1, .int .i32 c2, .int .i64 t2, .int .i64 t3] w fun e w' => e = .returned (.bool true) ∧ Below w.heap.size w w' := by
  have HA := Lib.hid (at_any src k w htab hg hn hk)
  have hec : (nxs src k (stNew src 0)).ec ≤ 4611686018427387000 := by
    have h1 := nxs_ec src k (stNew src 0)
    have h2 := stNew_ec src 0
    omega
  have HO := Lib.hid ho
  have q1 : ((((⟨src.toArray⟩ : ByteArray)[o]'hlt).toNat : Int) == 61) = true := by rw [bt_at src o hlt]; simp; omega
  have HCH := Lib.hid hch
  have HW := Lib.hid hw
  clear hch hw
  clear htab ho
  go_enter Tryf.func5, Tryf.ntmps5
  go_wp2_with (first
    | (go_at_call 12; go_in)
    | (go_at_call 7; refine HA.out.mono ?_; rw [show AtPost src k w = fun e w' => AtPost src k w e w' from rfl]; rintro e w1 ⟨F, rfl, hFB, hs1, hb1⟩; rw [HO.out]; have H1 := Lib.hid hs1; have B1 := Lib.hid hb1; clear hs1 hb1)
    | (go_at_call 13; refine (sw4_hit F src _ _ t0 t1 c2 t2 t3 H1.out hec HCH.out).mono ?_; rintro e w2 ⟨rfl, hs2, hb2⟩; have H2 := Lib.hid hs2; have B2 := Lib.hid hb2; clear hs2 hb2)
    | (go_at_call 9; refine (zzoff_eq F src _ _ (o + 1) H2.out (by rw [nx_off _ _ (by rw [HW.out]; exact hrd)]; exact HW.out)).mono ?_; rintro e w' ⟨rfl, rfl⟩))
  go_ret
  exact ⟨by simp, B1.out.trans (B2.out.mono hFB)⟩

set_option maxHeartbeats 1000000 in
theorem sl4_twoEq (src : List UInt8) (k : Nat) (w : World) (t0 t1 c2 t2 t3 : Int) (htab : Lib.Utf8Tabs 0 1 w) (hg : 0 < w.heap.size ∧ 1 < w.heap.size) (hn : src.length ≤ 65536) (hk : k ≤ 65536) (hc0 : 0 ≤ c2) (hc1 : c2 ≤ 127)
    (o : Nat) (ho : (nxs src k (stNew src 0)).off = o) (hol : o ≤ src.length) (hch : ¬ (nxs src k (stNew src 0)).ch = 61) (hc : (nxs src k (stNew src 0)).ch = c2) (hlt : o < src.length) (hb : ¬ bt src o = 61) (hb2 : (bt src o : Int) = c2) (hw : (nxs src k (stNew src 0)).rd = o + 1) (hrd : o + 1 ≤ src.length) (hch2 : (nx src (nxs src k (stNew src 0))).ch = 61) (hlt2 : o + 1 < src.length) (hb3 : bt src (o + 1) = 61) (hw2 : (nx src (nxs src k (stNew src 0))).rd = o + 2) :
    Calls Tryf.prog 5 #[.string ⟨src.toArray⟩, .int .i64 k, .int .i64 t0, .int .i64 t1, .int .i32 c2, .int .i64 t2, .int .i64 t3] w fun e w' => e = .returned (.bool true) ∧ Below w.heap.size w w' := by
  have HA := Lib.hid (at_any src k w htab hg hn hk)
  have hec : (nxs src k (stNew src 0)).ec ≤ 4611686018427387000 := by
    have h1 := nxs_ec src k (stNew src 0)
    have h2 := stNew_ec src 0
    omega
  have HO := Lib.hid ho
  have q1 : ((((⟨src.toArray⟩ : ByteArray)[o]'hlt).toNat : Int) == 61) = false := by rw [bt_at src o hlt]; simp; omega
  have q2 : ((((⟨src.toArray⟩ : ByteArray)[o]'hlt).toNat : Int) == c2) = true := by rw [bt_at src o hlt]; simp; omega
  have q3 : ((((⟨src.toArray⟩ : ByteArray)[o + 1]'hlt2).toNat : Int) == 61) = true := by rw [bt_at src (o + 1) hlt2]; simp; omega
  have HCH := Lib.hid hch
  have HW := Lib.hid hw
  clear hch hw
  have HC := Lib.hid hc
  have HB2 := Lib.hid hb2
  clear hc hb2
  have HCH2 := Lib.hid hch2
  have HW2 := Lib.hid hw2
  clear hch2 hw2
  clear htab ho
  go_enter Tryf.func5, Tryf.ntmps5
  go_wp2_with (first
    | (go_at_call 12; go_in)
    | (go_at_call 7; refine HA.out.mono ?_; rw [show AtPost src k w = fun e w' => AtPost src k w e w' from rfl]; rintro e w1 ⟨F, rfl, hFB, hs1, hb1⟩; rw [HO.out]; have H1 := Lib.hid hs1; have B1 := Lib.hid hb1; clear hs1 hb1)
    | (go_at_call 13; refine (sw4_twoEq F src _ _ t0 t1 c2 t2 t3 H1.out hec HCH.out HC.out HCH2.out).mono ?_; rintro e w2 ⟨rfl, hs2, hb2⟩; have H2 := Lib.hid hs2; have B2 := Lib.hid hb2; clear hs2 hb2)
    | (go_at_call 9; refine (zzoff_eq F src _ _ (o + 2) H2.out (by rw [nx_off _ _ (by rw [HW2.out]; omega)]; exact HW2.out)).mono ?_; rintro e w' ⟨rfl, rfl⟩))
  go_ret
  exact ⟨by simp, B1.out.trans (B2.out.mono hFB)⟩

set_option maxHeartbeats 1000000 in
theorem sl4_two (src : List UInt8) (k : Nat) (w : World) (t0 t1 c2 t2 t3 : Int) (htab : Lib.Utf8Tabs 0 1 w) (hg : 0 < w.heap.size ∧ 1 < w.heap.size) (hn : src.length ≤ 65536) (hk : k ≤ 65536) (hc0 : 0 ≤ c2) (hc1 : c2 ≤ 127)
    (o : Nat) (ho : (nxs src k (stNew src 0)).off = o) (hol : o ≤ src.length) (hch : ¬ (nxs src k (stNew src 0)).ch = 61) (hc : (nxs src k (stNew src 0)).ch = c2) (hlt : o < src.length) (hb : ¬ bt src o = 61) (hb2 : (bt src o : Int) = c2) (hw : (nxs src k (stNew src 0)).rd = o + 1) (hrd : o + 1 ≤ src.length) (hch2 : ¬ (nx src (nxs src k (stNew src 0))).ch = 61) (hlt2 : o + 1 < src.length) (hb3 : ¬ bt src (o + 1) = 61) :
    Calls Tryf.prog 5 #[.string ⟨src.toArray⟩, .int .i64 k, .int .i64 t0, .int .i64 t1, .int .i32 c2, .int .i64 t2, .int .i64 t3] w fun e w' => e = .returned (.bool true) ∧ Below w.heap.size w w' := by
  have HA := Lib.hid (at_any src k w htab hg hn hk)
  have hec : (nxs src k (stNew src 0)).ec ≤ 4611686018427387000 := by
    have h1 := nxs_ec src k (stNew src 0)
    have h2 := stNew_ec src 0
    omega
  have HO := Lib.hid ho
  have q1 : ((((⟨src.toArray⟩ : ByteArray)[o]'hlt).toNat : Int) == 61) = false := by rw [bt_at src o hlt]; simp; omega
  have q2 : ((((⟨src.toArray⟩ : ByteArray)[o]'hlt).toNat : Int) == c2) = true := by rw [bt_at src o hlt]; simp; omega
  have q3 : ((((⟨src.toArray⟩ : ByteArray)[o + 1]'hlt2).toNat : Int) == 61) = false := by rw [bt_at src (o + 1) hlt2]; simp; omega
  have HCH := Lib.hid hch
  have HW := Lib.hid hw
  clear hch hw
  have HC := Lib.hid hc
  have HB2 := Lib.hid hb2
  clear hc hb2
  have HCH2 := Lib.hid hch2
  clear hch2
  clear htab ho
  go_enter Tryf.func5, Tryf.ntmps5
  go_wp2_with (first
    | (go_at_call 12; go_in)
    | (go_at_call 7; refine HA.out.mono ?_; rw [show AtPost src k w = fun e w' => AtPost src k w e w' from rfl]; rintro e w1 ⟨F, rfl, hFB, hs1, hb1⟩; rw [HO.out]; have H1 := Lib.hid hs1; have B1 := Lib.hid hb1; clear hs1 hb1)
    | (go_at_call 13; refine (sw4_two F src _ _ t0 t1 c2 t2 t3 H1.out hec HCH.out HC.out HCH2.out).mono ?_; rintro e w2 ⟨rfl, hs2, hb2⟩; have H2 := Lib.hid hs2; have B2 := Lib.hid hb2; clear hs2 hb2)
    | (go_at_call 9; refine (zzoff_eq F src _ _ (o + 1) H2.out (by rw [nx_off _ _ (by rw [HW.out]; exact hrd)]; exact HW.out)).mono ?_; rintro e w' ⟨rfl, rfl⟩))
  go_ret
  exact ⟨by simp, B1.out.trans (B2.out.mono hFB)⟩

set_option maxHeartbeats 1000000 in
theorem sl4_twoEnd (src : List UInt8) (k : Nat) (w : World) (t0 t1 c2 t2 t3 : Int) (htab : Lib.Utf8Tabs 0 1 w) (hg : 0 < w.heap.size ∧ 1 < w.heap.size) (hn : src.length ≤ 65536) (hk : k ≤ 65536) (hc0 : 0 ≤ c2) (hc1 : c2 ≤ 127)
    (o : Nat) (ho : (nxs src k (stNew src 0)).off = o) (hol : o ≤ src.length) (hch : ¬ (nxs src k (stNew src 0)).ch = 61) (hc : (nxs src k (stNew src 0)).ch = c2) (hlt : o < src.length) (hb : ¬ bt src o = 61) (hb2 : (bt src o : Int) = c2) (hw : (nxs src k (stNew src 0)).rd = o + 1) (hrd : o + 1 ≤ src.length) (hch2 : ¬ (nx src (nxs src k (stNew src 0))).ch = 61) (hge2 : ¬ o + 1 < src.length) :
    Calls Tryf.prog 5 #[.string ⟨src.toArray⟩, .int .i64 k, .int .i64 t0, .int .i64 t1, .int .i32 c2, .int .i64 t2, .int .i64 t3] w fun e w' => e = .returned (.bool true) ∧ Below w.heap.size w w' := by
  have HA := Lib.hid (at_any src k w htab hg hn hk)
  have hec : (nxs src k (stNew src 0)).ec ≤ 4611686018427387000 := by
    have h1 := nxs_ec src k (stNew src 0)
    have h2 := stNew_ec src 0
    omega
  have HO := Lib.hid ho
  have q1 : ((((⟨src.toArray⟩ : ByteArray)[o]'hlt).toNat : Int) == 61) = false := by rw [bt_at src o hlt]; simp; omega
  have q2 : ((((⟨src.toArray⟩ : ByteArray)[o]'hlt).toNat : Int) == c2) = true := by rw [bt_at src o hlt]; simp; omega
  have HCH := Lib.hid hch
  have HW := Lib.hid hw
  clear hch hw
  have HC := Lib.hid hc
  have HB2 := Lib.hid hb2
  clear hc hb2
  have HCH2 := Lib.hid hch2
  clear hch2
  clear htab ho
  go_enter Tryf.func5, Tryf.ntmps5
  go_wp2_with (first
    | (go_at_call 12; go_in)
    | (go_at_call 7; refine HA.out.mono ?_; rw [show AtPost src k w = fun e w' => AtPost src k w e w' from rfl]; rintro e w1 ⟨F, rfl, hFB, hs1, hb1⟩; rw [HO.out]; have H1 := Lib.hid hs1; have B1 := Lib.hid hb1; clear hs1 hb1)
    | (go_at_call 13; refine (sw4_two F src _ _ t0 t1 c2 t2 t3 H1.out hec HCH.out HC.out HCH2.out).mono ?_; rintro e w2 ⟨rfl, hs2, hb2⟩; have H2 := Lib.hid hs2; have B2 := Lib.hid hb2; clear hs2 hb2)
    | (go_at_call 9; refine (zzoff_eq F src _ _ (o + 1) H2.out (by rw [nx_off _ _ (by rw [HW.out]; exact hrd)]; exact HW.out)).mono ?_; rintro e w' ⟨rfl, rfl⟩))
  go_ret
  exact ⟨by simp, B1.out.trans (B2.out.mono hFB)⟩

set_option maxHeartbeats 1000000 in
theorem sl4_miss (src : List UInt8) (k : Nat) (w : World) (t0 t1 c2 t2 t3 : Int) (htab : Lib.Utf8Tabs 0 1 w) (hg : 0 < w.heap.size ∧ 1 < w.heap.size) (hn : src.length ≤ 65536) (hk : k ≤ 65536) (hc0 : 0 ≤ c2) (hc1 : c2 ≤ 127)
    (o : Nat) (ho : (nxs src k (stNew src 0)).off = o) (hol : o ≤ src.length) (hch : ¬ (nxs src k (stNew src 0)).ch = 61) (hc : ¬ (nxs src k (stNew src 0)).ch = c2) (hlt : o < src.length) (hb : ¬ bt src o = 61) (hb2 : ¬ (bt src o : Int) = c2) :
    Calls Tryf.prog 5 #[.string ⟨src.toArray⟩, .int .i64 k, .int .i64 t0, .int .i64 t1, .int .i32 c2, .int .i64 t2, .int .i64 t3] w fun e w' => e = .returned (.bool true) ∧ Below w.heap.size w w' := by
  have HA := Lib.hid (at_any src k w htab hg hn hk)
  have hec : (nxs src k (stNew src 0)).ec ≤ 4611686018427387000 := by
    have h1 := nxs_ec src k (stNew src 0)
    have h2 := stNew_ec src 0
    omega
  have HO := Lib.hid ho
  have q1 : ((((⟨src.toArray⟩ : ByteArray)[o]'hlt).toNat : Int) == 61) = false := by rw [bt_at src o hlt]; simp; omega
  have q2 : ((((⟨src.toArray⟩ : ByteArray)[o]'hlt).toNat : Int) == c2) = false := by rw [bt_at src o hlt]; simp; omega
  have HCH := Lib.hid hch
  clear hch
  have HC := Lib.hid hc
  have HB2 := Lib.hid hb2
  clear hc hb2
  clear htab ho
  go_enter Tryf.func5, Tryf.ntmps5
  go_wp2_with (first
    | (go_at_call 12; go_in)
    | (go_at_call 7; refine HA.out.mono ?_; rw [show AtPost src k w = fun e w' => AtPost src k w e w' from rfl]; rintro e w1 ⟨F, rfl, hFB, hs1, hb1⟩; rw [HO.out]; have H1 := Lib.hid hs1; have B1 := Lib.hid hb1; clear hs1 hb1)
    | (go_at_call 13; refine (sw4_miss F src _ _ t0 t1 c2 t2 t3 H1.out hec HCH.out HC.out).mono ?_; rintro e w2 ⟨rfl, hs2, hb2⟩; have H2 := Lib.hid hs2; have B2 := Lib.hid hb2; clear hs2 hb2)
    | (go_at_call 9; refine (zzoff_eq F src _ _ o H2.out HO.out).mono ?_; rintro e w' ⟨rfl, rfl⟩))
  go_ret
  exact ⟨by simp, B1.out.trans (B2.out.mono hFB)⟩

set_option maxHeartbeats 1000000 in
theorem sl4_end (src : List UInt8) (k : Nat) (w : World) (t0 t1 c2 t2 t3 : Int) (htab : Lib.Utf8Tabs 0 1 w) (hg : 0 < w.heap.size ∧ 1 < w.heap.size) (hn : src.length ≤ 65536) (hk : k ≤ 65536) (hc0 : 0 ≤ c2) (hc1 : c2 ≤ 127)
    (o : Nat) (ho : (nxs src k (stNew src 0)).off = o) (hol : o ≤ src.length) (hch : ¬ (nxs src k (stNew src 0)).ch = 61) (hc : ¬ (nxs src k (stNew src 0)).ch = c2) (hge : ¬ o < src.length) :
    Calls Tryf.prog 5 #[.string ⟨src.toArray⟩, .int .i64 k, .int .i64 t0, .int .i64 t1, .int .i32 c2, .int .i64 t2, .int .i64 t3] w fun e w' => e = .returned (.bool true) ∧ Below w.heap.size w w' := by
  have HA := Lib.hid (at_any src k w htab hg hn hk)
  have hec : (nxs src k (stNew src 0)).ec ≤ 4611686018427387000 := by
    have h1 := nxs_ec src k (stNew src 0)
    have h2 := stNew_ec src 0
    omega
  have HO := Lib.hid ho
  have HCH := Lib.hid hch
  clear hch
  have HC := Lib.hid hc
  clear hc
  clear htab ho
  go_enter Tryf.func5, Tryf.ntmps5
  go_wp2_with (first
    | (go_at_call 12; go_in)
    | (go_at_call 7; refine HA.out.mono ?_; rw [show AtPost src k w = fun e w' => AtPost src k w e w' from rfl]; rintro e w1 ⟨F, rfl, hFB, hs1, hb1⟩; rw [HO.out]; have H1 := Lib.hid hs1; have B1 := Lib.hid hb1; clear hs1 hb1)
    | (go_at_call 13; refine (sw4_miss F src _ _ t0 t1 c2 t2 t3 H1.out hec HCH.out HC.out).mono ?_; rintro e w2 ⟨rfl, hs2, hb2⟩; have H2 := Lib.hid hs2; have B2 := Lib.hid hb2; clear hs2 hb2)
    | (go_at_call 9; refine (zzoff_eq F src _ _ o H2.out HO.out).mono ?_; rintro e w' ⟨rfl, rfl⟩))
  go_ret
  exact ⟨by simp, B1.out.trans (B2.out.mono hFB)⟩

set_option maxHeartbeats 1000000 in
theorem sl4_law (src : List UInt8) (kk : Int) (w : World) (t0 t1 c2 t2 t3 : Int) (hs : src.length ≤ 9223372036854775807) (hk0 : -9223372036854775808 ≤ kk) (hk1 : kk ≤ 9223372036854775807) (hc0 : -2147483648 ≤ c2) (hc1 : c2 ≤ 2147483647) (htab : Lib.Utf8Tabs 0 1 w) (hg : 0 < w.heap.size ∧ 1 < w.heap.size) :
    Calls Tryf.prog 5 #[.string ⟨src.toArray⟩, .int .i64 kk, .int .i64 t0, .int .i64 t1, .int .i32 c2, .int .i64 t2, .int .i64 t3] w fun e w' => e = .returned (.bool true) ∧ Below w.heap.size w w' := by
  by_cases hl : src.length ≤ 1048576
  case neg =>
    go_enter Tryf.func5, Tryf.ntmps5
    go_wp2_with (go_at_call 12; go_in)
    go_ret
    exact ⟨rfl, Below.refl _ _⟩
  by_cases hl2 : src.length ≤ 65536
  case neg =>
    go_enter Tryf.func5, Tryf.ntmps5
    go_wp2_with (go_at_call 12; go_in)
    go_ret
    exact ⟨rfl, Below.refl _ _⟩
  by_cases hk2 : kk < 0
  case pos =>
    go_enter Tryf.func5, Tryf.ntmps5
    go_wp2_with (go_at_call 12; go_in)
    go_ret
    exact ⟨rfl, Below.refl _ _⟩
  by_cases hk3 : 65536 < kk
  case pos =>
    go_enter Tryf.func5, Tryf.ntmps5
    go_wp2_with (go_at_call 12; go_in)
    go_ret
    exact ⟨rfl, Below.refl _ _⟩
  by_cases hk4 : c2 < 0
  case pos =>
    go_enter Tryf.func5, Tryf.ntmps5
    go_wp2_with (go_at_call 12; go_in)
    go_ret
    exact ⟨rfl, Below.refl _ _⟩
  by_cases hk5 : 127 < c2
  case pos =>
    go_enter Tryf.func5, Tryf.ntmps5
    go_wp2_with (go_at_call 12; go_in)
    go_ret
    exact ⟨rfl, Below.refl _ _⟩
  obtain ⟨k, rfl⟩ : ∃ k : Nat, kk = (k : Int) := ⟨kk.toNat, by omega⟩
  have hgood := nxs_good src k (stNew src 0) (stNew_good src 0)
  have hle := hgood.le
  have h61 := hgood.ascii 61 (by omega)
  obtain ⟨d, rfl⟩ : ∃ d : Nat, c2 = (d : Int) := ⟨c2.toNat, by omega⟩
  have hcc := hgood.ascii d (by omega)
  by_cases hch : (nxs src k (stNew src 0)).ch = 61
  · obtain ⟨hlt, hb⟩ := h61.1 hch
    have hst := hgood.step 61 (by omega) hch
    exact sl4_hit src k w t0 t1 d t2 t3 htab hg hl2 (by omega) (by omega) (by omega) _ rfl hle.2.2 hch hlt hb hst (by omega)
  · by_cases hc : (nxs src k (stNew src 0)).ch = (d : Int)
    · obtain ⟨hlt, hb⟩ := hcc.1 hc
      have hst := hgood.step d (by omega) hc
      have hn61 : ¬ bt src (nxs src k (stNew src 0)).off = 61 := fun hb => hch (h61.2 ⟨hlt, hb⟩)
      have hg2 := nx_good src _ hle.2.1
      have ho2 : (nx src (nxs src k (stNew src 0))).off = (nxs src k (stNew src 0)).off + 1 := by rw [nx_off _ _ hle.2.1, hst]
      have h61b := hg2.ascii 61 (by omega)
      by_cases hch2 : (nx src (nxs src k (stNew src 0))).ch = 61
      · obtain ⟨hlt2, hb3⟩ := h61b.1 hch2
        rw [ho2] at hlt2 hb3
        have hst2 := hg2.step 61 (by omega) hch2
        exact sl4_twoEq src k w t0 t1 d t2 t3 htab hg hl2 (by omega) (by omega) (by omega) _ rfl hle.2.2 hch hc hlt hn61 (by omega) hst (by omega) hch2 hlt2 hb3 (by omega)
      · by_cases hlt2 : (nxs src k (stNew src 0)).off + 1 < src.length
        · exact sl4_two src k w t0 t1 d t2 t3 htab hg hl2 (by omega) (by omega) (by omega) _ rfl hle.2.2 hch hc hlt hn61 (by omega) hst (by omega) hch2 hlt2 (fun hb3 => hch2 (h61b.2 ⟨by omega, by rw [ho2]; exact hb3⟩))
        · exact sl4_twoEnd src k w t0 t1 d t2 t3 htab hg hl2 (by omega) (by omega) (by omega) _ rfl hle.2.2 hch hc hlt hn61 (by omega) hst (by omega) hch2 hlt2
    · by_cases hlt : (nxs src k (stNew src 0)).off < src.length
      · exact sl4_miss src k w t0 t1 d t2 t3 htab hg hl2 (by omega) (by omega) (by omega) _ rfl hle.2.2 hch hc hlt (fun hb => hch (h61.2 ⟨hlt, hb⟩)) (fun hb => hc (hcc.2 ⟨hlt, by omega⟩))
      · exact sl4_end src k w t0 t1 d t2 t3 htab hg hl2 (by omega) (by omega) (by omega) _ rfl hle.2.2 hch hc hlt

end Go.Proofs.YtnddjmbgcaoccaaFmt
