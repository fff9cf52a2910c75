/-
  switch2, switch3 and switch4 of a scanner, and the three laws on them, walked. Conditions: at most 65536 bytes and steps (beyond, the laws say true at once).
-/
import Derived.Test.YtnddjmbgcaoccaaFmtSw
namespace Go.Proofs.YtnddjmbgcaoccaaFmt
open Go.RowKit
set_option linter.unusedVariables false

theorem nx_off (src : List UInt8) (s : St) (h : s.rd ≤ src.length) : (nx src s).off = s.rd := by
  unfold nx
  split
  · rfl
  · show src.length = s.rd
    omega
theorem Good.step {src : List UInt8} {s : St} (h : Good src s) (c : Nat) (hc : c < 128) (he : s.ch = (c : Int)) : s.rd = s.off + 1 := by
  have h1 := (h.ascii c hc).1 he
  rcases h with ⟨h2, h3, h4⟩ | ⟨h2, _, _⟩
  · have f := (rn_facts src s.off h2).2.2.2.2.2 (by omega)
    rw [h3, f]
  · omega
theorem bt_at (src : List UInt8) (o : Nat) (h : o < src.length) : ((((⟨src.toArray⟩ : ByteArray)[o]'h).toNat : Nat) : Int) = (bt src o : Int) := by
  have : (⟨src.toArray⟩ : ByteArray)[o]'h = src[o] := rfl
  rw [this]
  simp [bt, List.getD, h]

set_option maxHeartbeats 400000 in
theorem zzoff_eq (F : Fix) (src : List UInt8) (s : St) (w : World) (o : Nat) (h : SC F src s w) (ho : s.off = o) :
    Calls Tryf.prog 9 #[.pointer (some ⟨F.gS, 0, none⟩)] w fun e w' => e = .returned (.int .i64 o) ∧ w = w' := by
  subst ho
  exact zzoff_any F src s w h

def SwPost (F : Fix) (src : List UInt8) (s' : St) (r : Int) (w : World) (e : Ending) (w' : World) : Prop := e = .returned (.int .i64 r) ∧ SC F src s' w' ∧ Below F.B w w'

set_option maxHeartbeats 400000 in
theorem sw2_hit (F : Fix) (src : List UInt8) (s : St) (w : World) (t0 t1 : Int) (h : SC F src s w) (hec : s.ec ≤ 4611686018427387000) (hch : s.ch = 61) :
    Calls Tryf.prog 8 #[.pointer (some ⟨F.gS, 0, none⟩), .int .i64 t0, .int .i64 t1] w (SwPost F src (nx src s) t1 w) := by
  have c2 : w.cell? ⟨F.gS, 2, none⟩ = some (.int .i32 s.ch) := by rw [h.blkS.cell]; rfl
  have H := Lib.hid h
  clear h
  have t1 : (s.ch == 61) = true := by simpa using hch
  have HC := Lib.hid hch
  clear hch
  go_enter Tryf.func8, Tryf.ntmps8
  go_wp2_with (first | (go_at_call 16; go_in) | (go_at_call 22; refine (next_any F src s _ H.out (by omega)).mono ?_; rintro e w2 ⟨rfl, hs2, hb2⟩; have H2 := Lib.hid hs2; have B2 := Lib.hid hb2; clear hs2 hb2))
  go_ret
  exact ⟨rfl, H2.out, B2.out⟩

set_option maxHeartbeats 400000 in
theorem sw2_miss (F : Fix) (src : List UInt8) (s : St) (w : World) (t0 t1 : Int) (h : SC F src s w) (hec : s.ec ≤ 4611686018427387000) (hch : ¬ s.ch = 61) :
    Calls Tryf.prog 8 #[.pointer (some ⟨F.gS, 0, none⟩), .int .i64 t0, .int .i64 t1] w (SwPost F src s t0 w) := by
  have c2 : w.cell? ⟨F.gS, 2, none⟩ = some (.int .i32 s.ch) := by rw [h.blkS.cell]; rfl
  have H := Lib.hid h
  clear h
  have t1 : (s.ch == 61) = false := by simpa using hch
  have HC := Lib.hid hch
  clear hch
  go_enter Tryf.func8, Tryf.ntmps8
  go_wp2_with (go_at_call 16; go_in)
  go_ret
  exact ⟨rfl, H.out, Below.refl _ _⟩

set_option maxHeartbeats 400000 in
theorem sw3_hit (F : Fix) (src : List UInt8) (s : St) (w : World) (t0 t1 c2' t2 : Int) (h : SC F src s w) (hec : s.ec ≤ 4611686018427387000) (hch : s.ch = 61) :
    Calls Tryf.prog 11 #[.pointer (some ⟨F.gS, 0, none⟩), .int .i64 t0, .int .i64 t1, .int .i32 c2', .int .i64 t2] w (SwPost F src (nx src s) t1 w) := by
  have c2 : w.cell? ⟨F.gS, 2, none⟩ = some (.int .i32 s.ch) := by rw [h.blkS.cell]; rfl
  have H := Lib.hid h
  clear h
  have t1 : (s.ch == 61) = true := by simpa using hch
  have HC := Lib.hid hch
  clear hch
  go_enter Tryf.func11, Tryf.ntmps11
  go_wp2_with (first | (go_at_call 17; go_in) | (go_at_call 22; refine (next_any F src s _ H.out (by omega)).mono ?_; rintro e w2 ⟨rfl, hs2, hb2⟩; have H2 := Lib.hid hs2; have B2 := Lib.hid hb2; clear hs2 hb2))
  go_ret
  exact ⟨rfl, H2.out, B2.out⟩

set_option maxHeartbeats 400000 in
theorem sw3_two (F : Fix) (src : List UInt8) (s : St) (w : World) (t0 t1 c2' t2 : Int) (h : SC F src s w) (hec : s.ec ≤ 4611686018427387000) (hch : ¬ s.ch = 61) (hc2 : s.ch = c2') :
    Calls Tryf.prog 11 #[.pointer (some ⟨F.gS, 0, none⟩), .int .i64 t0, .int .i64 t1, .int .i32 c2', .int .i64 t2] w (SwPost F src (nx src s) t2 w) := by
  have c2 : w.cell? ⟨F.gS, 2, none⟩ = some (.int .i32 s.ch) := by rw [h.blkS.cell]; rfl
  have H := Lib.hid h
  clear h
  have t1 : (s.ch == 61) = false := by simpa using hch
  have HC := Lib.hid hch
  clear hch
  have t2 : (s.ch == c2') = true := by simpa using hc2
  have HC2 := Lib.hid hc2
  clear hc2
  go_enter Tryf.func11, Tryf.ntmps11
  go_wp2_with (first | (go_at_call 17; go_in) | (go_at_call 22; refine (next_any F src s _ H.out (by omega)).mono ?_; rintro e w2 ⟨rfl, hs2, hb2⟩; have H2 := Lib.hid hs2; have B2 := Lib.hid hb2; clear hs2 hb2))
  go_ret
  exact ⟨rfl, H2.out, B2.out⟩

set_option maxHeartbeats 400000 in
theorem sw3_miss (F : Fix) (src : List UInt8) (s : St) (w : World) (t0 t1 c2' t2 : Int) (h : SC F src s w) (hec : s.ec ≤ 4611686018427387000) (hch : ¬ s.ch = 61) (hc2 : ¬ s.ch = c2') :
    Calls Tryf.prog 11 #[.pointer (some ⟨F.gS, 0, none⟩), .int .i64 t0, .int .i64 t1, .int .i32 c2', .int .i64 t2] w (SwPost F src s t0 w) := by
  have c2 : w.cell? ⟨F.gS, 2, none⟩ = some (.int .i32 s.ch) := by rw [h.blkS.cell]; rfl
  have H := Lib.hid h
  clear h
  have t1 : (s.ch == 61) = false := by simpa using hch
  have HC := Lib.hid hch
  clear hch
  have t2 : (s.ch == c2') = false := by simpa using hc2
  have HC2 := Lib.hid hc2
  clear hc2
  go_enter Tryf.func11, Tryf.ntmps11
  go_wp2_with (go_at_call 17; go_in)
  go_ret
  exact ⟨rfl, H.out, Below.refl _ _⟩

set_option maxHeartbeats 400000 in
theorem sw4_hit (F : Fix) (src : List UInt8) (s : St) (w : World) (t0 t1 c2' t2 t3 : Int) (h : SC F src s w) (hec : s.ec ≤ 4611686018427387000) (hch : s.ch = 61) :
    Calls Tryf.prog 13 #[.pointer (some ⟨F.gS, 0, none⟩), .int .i64 t0, .int .i64 t1, .int .i32 c2', .int .i64 t2, .int .i64 t3] w (SwPost F src (nx src s) t1 w) := by
  have c2 : w.cell? ⟨F.gS, 2, none⟩ = some (.int .i32 s.ch) := by rw [h.blkS.cell]; rfl
  have H := Lib.hid h
  clear h
  have t1 : (s.ch == 61) = true := by simpa using hch
  have HC := Lib.hid hch
  clear hch
  go_enter Tryf.func13, Tryf.ntmps13
  go_wp2_with (first | (go_at_call 18; go_in) | (go_at_call 22; refine (next_any F src s _ H.out (by omega)).mono ?_; rintro e w2 ⟨rfl, hs2, hb2⟩; have H2 := Lib.hid hs2; have B2 := Lib.hid hb2; clear hs2 hb2))
  go_ret
  exact ⟨rfl, H2.out, B2.out⟩

set_option maxHeartbeats 400000 in
theorem sw4_twoEq (F : Fix) (src : List UInt8) (s : St) (w : World) (t0 t1 c2' t2 t3 : Int) (h : SC F src s w) (hec : s.ec ≤ 4611686018427387000) (hch : ¬ s.ch = 61) (hc2 : s.ch = c2') (hc3 : (nx src s).ch = 61) :
    Calls Tryf.prog 13 #[.pointer (some ⟨F.gS, 0, none⟩), .int .i64 t0, .int .i64 t1, .int .i32 c2', .int .i64 t2, .int .i64 t3] w (SwPost F src (nx src (nx src s)) t3 w) := by
  have c2 : w.cell? ⟨F.gS, 2, none⟩ = some (.int .i32 s.ch) := by rw [h.blkS.cell]; rfl
  have H := Lib.hid h
  clear h
  have t1 : (s.ch == 61) = false := by simpa using hch
  have HC := Lib.hid hch
  clear hch
  have t2 : (s.ch == c2') = true := by simpa using hc2
  have HC2 := Lib.hid hc2
  clear hc2
  have t3 : ((nx src s).ch == 61) = true := by simpa using hc3
  have HC3 := Lib.hid hc3
  clear hc3
  go_enter Tryf.func13, Tryf.ntmps13
  go_wp2_with (first | (go_at_call 18; go_in) | (go_at_call 22; refine (next_any F src s _ H.out (by omega)).mono ?_; rintro e w2 ⟨rfl, hs2, hb2⟩; have H2 := Lib.hid hs2; have B2 := Lib.hid hb2; have d2 : w2.cell? ⟨F.gS, 2, none⟩ = some (.int .i32 (nx src s).ch) := (hs2.blkS.cell 2).trans rfl; clear hs2 hb2; refine Hid.out ?_))
  refine Lib.hid ?_
  have hec2 := nx_ec src s
  go_wp2_with (go_at_call 22; refine (next_any F src (nx src s) _ H2.out (by omega)).mono ?_; rintro e w3 ⟨rfl, hs3, hb3⟩; have H3 := Lib.hid hs3; have B3 := Lib.hid hb3; clear hs3 hb3)
  go_ret
  exact ⟨rfl, H3.out, B2.out.trans B3.out⟩

set_option maxHeartbeats 400000 in
theorem sw4_two (F : Fix) (src : List UInt8) (s : St) (w : World) (t0 t1 c2' t2 t3 : Int) (h : SC F src s w) (hec : s.ec ≤ 4611686018427387000) (hch : ¬ s.ch = 61) (hc2 : s.ch = c2') (hc3 : ¬ (nx src s).ch = 61) :
    Calls Tryf.prog 13 #[.pointer (some ⟨F.gS, 0, none⟩), .int .i64 t0, .int .i64 t1, .int .i32 c2', .int .i64 t2, .int .i64 t3] w (SwPost F src (nx src s) t2 w) := by
  have c2 : w.cell? ⟨F.gS, 2, none⟩ = some (.int .i32 s.ch) := by rw [h.blkS.cell]; rfl
  have H := Lib.hid h
  clear h
  have t1 : (s.ch == 61) = false := by simpa using hch
  have HC := Lib.hid hch
  clear hch
  have t2 : (s.ch == c2') = true := by simpa using hc2
  have HC2 := Lib.hid hc2
  clear hc2
  have t3 : ((nx src s).ch == 61) = false := by simpa using hc3
  have HC3 := Lib.hid hc3
  clear hc3
  go_enter Tryf.func13, Tryf.ntmps13
  go_wp2_with (first | (go_at_call 18; go_in) | (go_at_call 22; refine (next_any F src s _ H.out (by omega)).mono ?_; rintro e w2 ⟨rfl, hs2, hb2⟩; have H2 := Lib.hid hs2; have B2 := Lib.hid hb2; have d2 : w2.cell? ⟨F.gS, 2, none⟩ = some (.int .i32 (nx src s).ch) := (hs2.blkS.cell 2).trans rfl; clear hs2 hb2; refine Hid.out ?_))
  refine Lib.hid ?_
  go_wp2_with fail
  go_ret
  exact ⟨rfl, H2.out, B2.out⟩

set_option maxHeartbeats 400000 in
theorem sw4_miss (F : Fix) (src : List UInt8) (s : St) (w : World) (t0 t1 c2' t2 t3 : Int) (h : SC F src s w) (hec : s.ec ≤ 4611686018427387000) (hch : ¬ s.ch = 61) (hc2 : ¬ s.ch = c2') :
    Calls Tryf.prog 13 #[.pointer (some ⟨F.gS, 0, none⟩), .int .i64 t0, .int .i64 t1, .int .i32 c2', .int .i64 t2, .int .i64 t3] w (SwPost F src s t0 w) := by
  have c2 : w.cell? ⟨F.gS, 2, none⟩ = some (.int .i32 s.ch) := by rw [h.blkS.cell]; rfl
  have H := Lib.hid h
  clear h
  have t1 : (s.ch == 61) = false := by simpa using hch
  have HC := Lib.hid hch
  clear hch
  have t2 : (s.ch == c2') = false := by simpa using hc2
  have HC2 := Lib.hid hc2
  clear hc2
  go_enter Tryf.func13, Tryf.ntmps13
  go_wp2_with (go_at_call 18; go_in)
  go_ret
  exact ⟨rfl, H.out, Below.refl _ _⟩

end Go.Proofs.YtnddjmbgcaoccaaFmt
