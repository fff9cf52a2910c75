/-
  The law FnSwitch2Exact, walked: true at every input. Conditions: none beside the two tables of unicode/utf8, which the card ties.
-/
import Derived.Test.YtnddjmbgcaoccaaFmtSwC
namespace Go.Proofs.YtnddjmbgcaoccaaFmt
open Go.RowKit
set_option linter.unusedVariables false

set_option maxHeartbeats 1000000 in
theorem sl2_hit (src : List UInt8) (k : Nat) (w : World) (t0 t1 : Int) (htab : Lib.Utf8Tabs 0 1 w) (hg : 0 < w.heap.size ∧ 1 < w.heap.size) (hn : src.length ≤ 65536) (hk : k ≤ 65536)
    (o : Nat) (ho : (nxs src k (stNew src 0)).off = o) (hol : o ≤ src.length) (hch : (nxs src k (stNew src 0)).ch = 61) (hlt : o < src.length) (hb : bt src o = 61) (hw : (nxs src k (stNew src 0)).rd = o + 1) (hrd : o + 1 ≤ src.length)  :
    Calls Tryf.prog 3 #[.string ⟨src.toArray⟩, .int .i64 k, .int .i64 t0, .int .i64 t1] w fun e w' => e = .returned (.bool true) ∧ Below w.heap.size w w' := by
  have HA := Lib.hid (at_any src k w htab hg hn hk)
  have hec : (nxs src k (stNew src 0)).ec ≤ 4611686018427387000 := by
    have h1 := nxs_ec src k (stNew src 0)
    have h2 := stNew_ec src 0
    omega
  have HO := Lib.hid ho
  have q1 : ((((⟨src.toArray⟩ : ByteArray)[o]'hlt).toNat : Int) == 61) = true := by rw [bt_at src o hlt]; simp; omega
  have HCH := Lib.hid hch
  have HW := Lib.hid hw
  clear hch hw
  clear htab ho
  go_enter Tryf.func3, Tryf.ntmps3
  go_wp2_with (first
    | (go_at_call 6; go_in)
    | (go_at_call 7; refine HA.out.mono ?_; rw [show AtPost src k w = fun e w' => AtPost src k w e w' from rfl]; rintro e w1 ⟨F, rfl, hFB, hs1, hb1⟩; rw [HO.out]; have H1 := Lib.hid hs1; have B1 := Lib.hid hb1; clear hs1 hb1)
    | (go_at_call 8; refine (sw2_hit F src _ _ t0 t1 H1.out hec HCH.out).mono ?_; rintro e w2 ⟨rfl, hs2, hb2⟩; have H2 := Lib.hid hs2; have B2 := Lib.hid hb2; clear hs2 hb2)
    | (go_at_call 9; refine (zzoff_eq F src _ _ (o + 1) H2.out (by rw [nx_off _ _ (by rw [HW.out]; exact hrd)]; exact HW.out)).mono ?_; rintro e w' ⟨rfl, rfl⟩))
  go_ret
  exact ⟨by simp, B1.out.trans (B2.out.mono hFB)⟩

set_option maxHeartbeats 1000000 in
theorem sl2_miss (src : List UInt8) (k : Nat) (w : World) (t0 t1 : Int) (htab : Lib.Utf8Tabs 0 1 w) (hg : 0 < w.heap.size ∧ 1 < w.heap.size) (hn : src.length ≤ 65536) (hk : k ≤ 65536)
    (o : Nat) (ho : (nxs src k (stNew src 0)).off = o) (hol : o ≤ src.length) (hch : ¬ (nxs src k (stNew src 0)).ch = 61) (hlt : o < src.length) (hb : ¬ bt src o = 61) :
    Calls Tryf.prog 3 #[.string ⟨src.toArray⟩, .int .i64 k, .int .i64 t0, .int .i64 t1] w fun e w' => e = .returned (.bool true) ∧ Below w.heap.size w w' := by
  have HA := Lib.hid (at_any src k w htab hg hn hk)
  have hec : (nxs src k (stNew src 0)).ec ≤ 4611686018427387000 := by
    have h1 := nxs_ec src k (stNew src 0)
    have h2 := stNew_ec src 0
    omega
  have HO := Lib.hid ho
  have q1 : ((((⟨src.toArray⟩ : ByteArray)[o]'hlt).toNat : Int) == 61) = false := by rw [bt_at src o hlt]; simp; omega
  have HCH := Lib.hid hch
  clear hch
  clear htab ho
  go_enter Tryf.func3, Tryf.ntmps3
  go_wp2_with (first
    | (go_at_call 6; go_in)
    | (go_at_call 7; refine HA.out.mono ?_; rw [show AtPost src k w = fun e w' => AtPost src k w e w' from rfl]; rintro e w1 ⟨F, rfl, hFB, hs1, hb1⟩; rw [HO.out]; have H1 := Lib.hid hs1; have B1 := Lib.hid hb1; clear hs1 hb1)
    | (go_at_call 8; refine (sw2_miss F src _ _ t0 t1 H1.out hec HCH.out).mono ?_; rintro e w2 ⟨rfl, hs2, hb2⟩; have H2 := Lib.hid hs2; have B2 := Lib.hid hb2; clear hs2 hb2)
    | (go_at_call 9; refine (zzoff_eq F src _ _ o H2.out HO.out).mono ?_; rintro e w' ⟨rfl, rfl⟩))
  go_ret
  exact ⟨by simp, B1.out.trans (B2.out.mono hFB)⟩

set_option maxHeartbeats 1000000 in
theorem sl2_end (src : List UInt8) (k : Nat) (w : World) (t0 t1 : Int) (htab : Lib.Utf8Tabs 0 1 w) (hg : 0 < w.heap.size ∧ 1 < w.heap.size) (hn : src.length ≤ 65536) (hk : k ≤ 65536)
    (o : Nat) (ho : (nxs src k (stNew src 0)).off = o) (hol : o ≤ src.length) (hch : ¬ (nxs src k (stNew src 0)).ch = 61) (hge : ¬ o < src.length) :
    Calls Tryf.prog 3 #[.string ⟨src.toArray⟩, .int .i64 k, .int .i64 t0, .int .i64 t1] w fun e w' => e = .returned (.bool true) ∧ Below w.heap.size w w' := by
  have HA := Lib.hid (at_any src k w htab hg hn hk)
  have hec : (nxs src k (stNew src 0)).ec ≤ 4611686018427387000 := by
    have h1 := nxs_ec src k (stNew src 0)
    have h2 := stNew_ec src 0
    omega
  have HO := Lib.hid ho
  have HCH := Lib.hid hch
  clear hch
  clear htab ho
  go_enter Tryf.func3, Tryf.ntmps3
  go_wp2_with (first
    | (go_at_call 6; go_in)
    | (go_at_call 7; refine HA.out.mono ?_; rw [show AtPost src k w = fun e w' => AtPost src k w e w' from rfl]; rintro e w1 ⟨F, rfl, hFB, hs1, hb1⟩; rw [HO.out]; have H1 := Lib.hid hs1; have B1 := Lib.hid hb1; clear hs1 hb1)
    | (go_at_call 8; refine (sw2_miss F src _ _ t0 t1 H1.out hec HCH.out).mono ?_; rintro e w2 ⟨rfl, hs2, hb2⟩; have H2 := Lib.hid hs2; have B2 := Lib.hid hb2; clear hs2 hb2)
    | (go_at_call 9; refine (zzoff_eq F src _ _ o H2.out HO.out).mono ?_; rintro e w' ⟨rfl, rfl⟩))
  go_ret
  exact ⟨by simp, B1.out.trans (B2.out.mono hFB)⟩

set_option maxHeartbeats 1000000 in
theorem sl2_law (src : List UInt8) (kk : Int) (w : World) (t0 t1 : Int) (hs : src.length ≤ 9223372036854775807) (hk0 : -9223372036854775808 ≤ kk) (hk1 : kk ≤ 9223372036854775807) (htab : Lib.Utf8Tabs 0 1 w) (hg : 0 < w.heap.size ∧ 1 < w.heap.size) :
    Calls Tryf.prog 3 #[.string ⟨src.toArray⟩, .int .i64 kk, .int .i64 t0, .int .i64 t1] w fun e w' => e = .returned (.bool true) ∧ Below w.heap.size w w' := by
  by_cases hl : src.length ≤ 1048576
  case neg =>
    go_enter Tryf.func3, Tryf.ntmps3
    go_wp2_with (go_at_call 6; go_in)
    go_ret
    exact ⟨rfl, Below.refl _ _⟩
  by_cases hl2 : src.length ≤ 65536
  case neg =>
    go_enter Tryf.func3, Tryf.ntmps3
    go_wp2_with (go_at_call 6; go_in)
    go_ret
    exact ⟨rfl, Below.refl _ _⟩
  by_cases hk2 : kk < 0
  case pos =>
    go_enter Tryf.func3, Tryf.ntmps3
    go_wp2_with (go_at_call 6; go_in)
    go_ret
    exact ⟨rfl, Below.refl _ _⟩
  by_cases hk3 : 65536 < kk
  case pos =>
    go_enter Tryf.func3, Tryf.ntmps3
    go_wp2_with (go_at_call 6; go_in)
    go_ret
    exact ⟨rfl, Below.refl _ _⟩
  obtain ⟨k, rfl⟩ : ∃ k : Nat, kk = (k : Int) := ⟨kk.toNat, by omega⟩
  have hgood := nxs_good src k (stNew src 0) (stNew_good src 0)
  have hle := hgood.le
  have h61 := hgood.ascii 61 (by omega)
  by_cases hch : (nxs src k (stNew src 0)).ch = 61
  · obtain ⟨hlt, hb⟩ := h61.1 hch
    have hst := hgood.step 61 (by omega) hch
    exact sl2_hit src k w t0 t1 htab hg hl2 (by omega) _ rfl hle.2.2 hch hlt hb hst (by omega)
  · by_cases hlt : (nxs src k (stNew src 0)).off < src.length
    · exact sl2_miss src k w t0 t1 htab hg hl2 (by omega) _ rfl hle.2.2 hch hlt (fun hb => hch (h61.2 ⟨hlt, hb⟩))
    · exact sl2_end src k w t0 t1 htab hg hl2 (by omega) _ rfl hle.2.2 hch hlt

end Go.Proofs.YtnddjmbgcaoccaaFmt
