/-
  peek, the switches, Offset and ErrorCount. Conditions: as stated.
-/
import Derived.Test.YtamfekpcoppbgaaFmtSkA
namespace Go.Proofs.YtamfekpcoppbgaaFmt
open Go.RowKit
set_option maxRecDepth 100000
set_option linter.unusedVariables false

set_option maxHeartbeats 1000000 in
theorem peek_any (F : Fix) (src : List UInt8) (s : St) (w : World) (h : SC F src s w) :
    Calls Tryf.prog 35 #[.pointer (some ⟨F.gS, 0, none⟩)] w fun e w' => e = .returned (.int .u8 (bt src s.rd : Int)) ∧ ∃ n, w' = w.drewN n := by
  have c1 : w.cell? ⟨F.gS, 1, none⟩ = some (.slice F.oA src.length F.cap) := by rw [h.blkS.cell]; rfl
  have c4 : w.cell? ⟨F.gS, 4, none⟩ = some (.int .i64 s.rd) := by rw [h.blkS.cell]; rfl
  have hlen := h.len
  by_cases hlt : s.rd < src.length
  · have tr : decide ((s.rd : Int) < (src.length : Int)) = true := by simp; omega
    obtain ⟨b, o, eo, hbB, hcc⟩ := h.srcAt.at_ (by omega)
    have c5 : w.cell? ⟨b, o + s.rd, none⟩ = some (.int .u8 (bt src s.rd : Int)) := by
      rw [hcc s.rd hlt]
      simp [bt, List.getD, hlt]
    rw [eo] at c1
    have i1 : (s.rd : Int) < (src.length : Int) := by omega
    have i0 : (0 : Int) ≤ (s.rd : Int) := by omega
    generalize bt src s.rd = z at c5 ⊢
    clear hcc eo h
    go_enter Tryf.func35, Tryf.ntmps35
    go_wp2_with fail
    go_quiet (fail)
    go_wp2_with fail
    go_quiet (fail)
    go_wp2_with fail
    go_ret
    exact ⟨rfl, _, World.drewN_drewN _ _ _⟩
  · have tr : decide ((s.rd : Int) < (src.length : Int)) = false := by simp; omega
    have e0 : bt src s.rd = 0 := by
      unfold bt
      rw [List.getD, List.getElem?_eq_none (by omega)]
      rfl
    rw [e0]
    clear h e0
    go_enter Tryf.func35, Tryf.ntmps35
    go_wp2_with fail
    go_quiet (fail)
    go_wp2_with fail
    go_ret
    exact ⟨rfl, _, rfl⟩
def SwPost (F : Fix) (src : List UInt8) (r : Int × St) (w : World) (e : Ending) (w' : World) : Prop := e = .returned (.int .i64 r.1) ∧ SC F src r.2 w' ∧ Below F.B w w'
def sw2 (src : List UInt8) (s : St) (t0 t1 : Int) : Int × St := if s.ch = 61 then (t1, nx src s) else (t0, s)
def sw3 (src : List UInt8) (s : St) (t0 t1 c2 t2 : Int) : Int × St := if s.ch = 61 then (t1, nx src s) else if s.ch = c2 then (t2, nx src s) else (t0, s)
def sw4 (src : List UInt8) (s : St) (t0 t1 c2 t2 t3 : Int) : Int × St :=
  if s.ch = 61 then (t1, nx src s) else if s.ch = c2 then (if (nx src s).ch = 61 then (t3, nx src (nx src s)) else (t2, nx src s)) else (t0, s)
theorem nx_ec1 (src : List UInt8) (s : St) : (nx src s).ec ≤ s.ec + 1 := by
  unfold nx
  split
  · show s.ec + (if badc src s.rd = true then 1 else 0) ≤ s.ec + 1
    split <;> omega
  · show s.ec ≤ s.ec + 1
    omega

set_option maxHeartbeats 1000000 in
theorem switch2_any (F : Fix) (src : List UInt8) (s : St) (t0 t1 : Int) (w : World) (h : SC F src s w) (hec : s.ec ≤ 4611686018427380000) :
    Calls Tryf.prog 41 #[.pointer (some ⟨F.gS, 0, none⟩), .int .i64 t0, .int .i64 t1] w (SwPost F src (sw2 src s t0 t1) w) := by
  have cc : w.cell? ⟨F.gS, 2, none⟩ = some (.int .i32 s.ch) := by rw [h.blkS.cell]; rfl
  have H := Lib.hid h
  clear h
  unfold sw2
  by_cases h1 : s.ch = 61
  · rw [if_pos h1]
    have t1 : (s.ch == 61) = true := by simpa using h1
    clear h1
    go_enter Tryf.func41, Tryf.ntmps41
    go_wp2_with (go_at_call 37; refine (next_any F src s _ H.out (by omega)).mono ?_; rintro e w2 ⟨rfl, hs2, hb2⟩; have Hw2 := Lib.hid hs2; have Bw2 := Lib.hid hb2; clear hs2 hb2)
    go_ret
    exact ⟨rfl, Hw2.out, Bw2.out⟩
  rw [if_neg h1]
  have t1 : (s.ch == 61) = false := by simpa using h1
  clear h1
  go_enter Tryf.func41, Tryf.ntmps41
  go_wp2_with fail
  go_ret
  exact ⟨rfl, H.out, Below.refl _ _⟩

set_option maxHeartbeats 1000000 in
theorem switch3_any (F : Fix) (src : List UInt8) (s : St) (t0 t1 c2 t2 : Int) (w : World) (h : SC F src s w) (hec : s.ec ≤ 4611686018427380000) :
    Calls Tryf.prog 42 #[.pointer (some ⟨F.gS, 0, none⟩), .int .i64 t0, .int .i64 t1, .int .i32 c2, .int .i64 t2] w (SwPost F src (sw3 src s t0 t1 c2 t2) w) := by
  have cc : w.cell? ⟨F.gS, 2, none⟩ = some (.int .i32 s.ch) := by rw [h.blkS.cell]; rfl
  have H := Lib.hid h
  clear h
  unfold sw3
  by_cases h1 : s.ch = 61
  · rw [if_pos h1]
    have t1 : (s.ch == 61) = true := by simpa using h1
    clear h1
    go_enter Tryf.func42, Tryf.ntmps42
    go_wp2_with (go_at_call 37; refine (next_any F src s _ H.out (by omega)).mono ?_; rintro e w2 ⟨rfl, hs2, hb2⟩; have Hw2 := Lib.hid hs2; have Bw2 := Lib.hid hb2; clear hs2 hb2)
    go_ret
    exact ⟨rfl, Hw2.out, Bw2.out⟩
  rw [if_neg h1]
  have t1 : (s.ch == 61) = false := by simpa using h1
  clear h1
  by_cases h2 : s.ch = c2
  rotate_left
  · rw [if_neg h2]
    have t2 : (s.ch == c2) = false := by simpa using h2
    clear h2
    go_enter Tryf.func42, Tryf.ntmps42
    go_wp2_with fail
    go_ret
    exact ⟨rfl, H.out, Below.refl _ _⟩
  rw [if_pos h2]
  have t2 : (s.ch == c2) = true := by simpa using h2
  clear h2
  go_enter Tryf.func42, Tryf.ntmps42
  go_wp2_with (go_at_call 37; refine (next_any F src s _ H.out (by omega)).mono ?_; rintro e w2 ⟨rfl, hs2, hb2⟩; have Hw2 := Lib.hid hs2; have Bw2 := Lib.hid hb2; clear hs2 hb2)
  go_ret
  exact ⟨rfl, Hw2.out, Bw2.out⟩

set_option maxHeartbeats 1000000 in
theorem switch4_any (F : Fix) (src : List UInt8) (s : St) (t0 t1 c2 t2 t3 : Int) (w : World) (h : SC F src s w) (hec : s.ec ≤ 4611686018427380000) :
    Calls Tryf.prog 46 #[.pointer (some ⟨F.gS, 0, none⟩), .int .i64 t0, .int .i64 t1, .int .i32 c2, .int .i64 t2, .int .i64 t3] w (SwPost F src (sw4 src s t0 t1 c2 t2 t3) w) := by
  have cc : w.cell? ⟨F.gS, 2, none⟩ = some (.int .i32 s.ch) := by rw [h.blkS.cell]; rfl
  have H := Lib.hid h
  clear h
  unfold sw4
  by_cases h1 : s.ch = 61
  · rw [if_pos h1]
    have t1 : (s.ch == 61) = true := by simpa using h1
    clear h1
    go_enter Tryf.func46, Tryf.ntmps46
    go_wp2_with (go_at_call 37; refine (next_any F src s _ H.out (by omega)).mono ?_; rintro e w2 ⟨rfl, hs2, hb2⟩; have Hw2 := Lib.hid hs2; have Bw2 := Lib.hid hb2; clear hs2 hb2)
    go_ret
    exact ⟨rfl, Hw2.out, Bw2.out⟩
  rw [if_neg h1]
  have t1 : (s.ch == 61) = false := by simpa using h1
  clear h1
  by_cases h2 : s.ch = c2
  rotate_left
  · rw [if_neg h2]
    have t2 : (s.ch == c2) = false := by simpa using h2
    clear h2
    go_enter Tryf.func46, Tryf.ntmps46
    go_wp2_with fail
    go_ret
    exact ⟨rfl, H.out, Below.refl _ _⟩
  rw [if_pos h2]
  have t2 : (s.ch == c2) = true := by simpa using h2
  clear h2
  have hn1 := nx_ec1 src s
  by_cases h3 : (nx src s).ch = 61
  · rw [if_pos h3]
    have t3 : ((nx src s).ch == 61) = true := by simpa using h3
    clear h3
    go_enter Tryf.func46, Tryf.ntmps46
    go_wp2_with (go_at_call 37; refine Hid.out ?_)
    refine Lib.hid ?_
    refine (next_any F src s _ H.out (by omega)).mono ?_
    rintro e w2 ⟨rfl, hs2, hb2⟩
    have d2 : w2.cell? ⟨F.gS, 2, none⟩ = some (.int .i32 (nx src s).ch) := by rw [hs2.blkS.cell]; rfl
    have H2 := Lib.hid hs2
    have B2 := Lib.hid hb2
    clear hs2 hb2 cc t1 t2
    go_wp2_with (go_at_call 37; refine Hid.out ?_)
    refine Lib.hid ?_
    refine (next_any F src (nx src s) _ H2.out (by omega)).mono ?_
    rintro e w3 ⟨rfl, hs3, hb3⟩
    have H3 := Lib.hid hs3
    have B3 := Lib.hid (B2.out.trans hb3)
    clear hs3 hb3
    go_wp2_with fail
    go_ret
    exact ⟨rfl, H3.out, B3.out⟩

  · rw [if_neg h3]
    have t3 : ((nx src s).ch == 61) = false := by simpa using h3
    clear h3
    go_enter Tryf.func46, Tryf.ntmps46
    go_wp2_with (go_at_call 37; refine Hid.out ?_)
    refine Lib.hid ?_
    refine (next_any F src s _ H.out (by omega)).mono ?_
    rintro e w2 ⟨rfl, hs2, hb2⟩
    have d2 : w2.cell? ⟨F.gS, 2, none⟩ = some (.int .i32 (nx src s).ch) := by rw [hs2.blkS.cell]; rfl
    have H2 := Lib.hid hs2
    have B2 := Lib.hid hb2
    clear hs2 hb2 cc t1 t2
    go_wp2_with fail
    go_ret
    exact ⟨rfl, H2.out, B2.out⟩


set_option maxHeartbeats 1000000 in
theorem offset_any (gF : Nat) (fx : FileFix) (n off : Nat) (lv : Value) (w : World) (hb : Blk w gF 32 (flCells fx n lv)) (ho : off ≤ n) (hn : n ≤ 1048576) (hbase : fx.base ≤ 1000000) :
    Calls Tryf.prog 44 #[.pointer (some ⟨gF, 0, none⟩), .int .i64 ((fx.base : Int) + (off : Int))] w fun e w' => e = .returned (.int .i64 (off : Int)) ∧ ∃ n, w' = w.drewN n := by
  have c2 : w.cell? ⟨gF, 2, none⟩ = some (.int .i64 fx.base) := by rw [hb.cell]; rfl
  have c3 : w.cell? ⟨gF, 3, none⟩ = some (.int .i64 n) := by rw [hb.cell]; rfl
  clear hb
  have hA : (fx.base : Int) ≤ (fx.base : Int) + (off : Int) := by omega
  have hB : (fx.base : Int) + (off : Int) ≤ (fx.base : Int) + (n : Int) := by omega
  have t1 : decide ((fx.base : Int) + (off : Int) < (fx.base : Int)) = false := decide_eq_false (by omega)
  have t2 : decide ((fx.base : Int) + (off : Int) > (fx.base : Int) + (n : Int)) = false := decide_eq_false (by omega)
  go_enter Tryf.func44, Tryf.ntmps44
  go_wp2_with fail
  go_quiet (fail)
  go_wp2_with fail
  go_ret
  exact ⟨by first | rfl | (simp; omega), _, rfl⟩
set_option maxHeartbeats 400000 in
theorem errorCount_any (F : Fix) (src : List UInt8) (s : St) (w : World) (h : SC F src s w) :
    Calls Tryf.prog 17 #[.pointer (some ⟨F.gS, 0, none⟩)] w fun e w' => e = .returned (.int .i64 (s.ec : Int)) ∧ w = w' := by
  have c8 : w.cell? ⟨F.gS, 8, none⟩ = some (.int .i64 s.ec) := by rw [h.blkS.cell]; rfl
  clear h
  go_enter Tryf.func17, Tryf.ntmps17
  go_wp2_with fail
  go_ret
  exact ⟨rfl, rfl⟩
end Go.Proofs.YtamfekpcoppbgaaFmt
