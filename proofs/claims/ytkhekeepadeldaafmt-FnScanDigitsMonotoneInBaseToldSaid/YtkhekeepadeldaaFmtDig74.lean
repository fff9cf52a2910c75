/-
  FnScanDigitsMonotoneInBase, walked. Conditions: none beyond the law's own.
-/
import Derived.Test.YtkhekeepadeldaaFmtDig
import Derived.Test.YtkhekeepadeldaaFmtStart74
import Derived.Test.YtkhekeepadeldaaFmtClone74
import Derived.Test.YtkhekeepadeldaaFmtAppG
namespace Go.Proofs.YtkhekeepadeldaaFmt
open Go.RowKit
set_option maxRecDepth 100000
set_option linter.unusedVariables false

set_option maxHeartbeats 400000 in
theorem bytes_dig (o0 : Option Addr) (n0 cap0 : Nat) (b1 : Int) (b2 : Int) (w : World) (h0 : n0 ≤ 9223372036854775807) :
    Calls Tryf.prog 6 #[.slice o0 n0 cap0, .int .i64 b1, .int .i64 b2] w fun e w' => e = .returned (.bool (decide (n0 ≤ 1048576))) ∧ w = w' := by
  go_enter Tryf.func6, Tryf.ntmps6
  go_wp2
  all_goals (go_ret; first | exact ⟨ret_t (by omega), rfl⟩ | exact ⟨ret_f (by omega), rfl⟩)

def ZDPost (src : List UInt8) (b : Int) (w : World) (e : Ending) (w' : World) : Prop :=
  ∃ t, e = .returned (.int .i64 (t.off : Int)) ∧ DigR src b (stNew src 0) t ∧ t.off ≤ src.length ∧ Below w.heap.size w w'
set_option maxHeartbeats 2000000 in
theorem zzdig_any (b : Int) (hb0 : -9223372036854775808 ≤ b) (hb : b ≤ 16) (oA : Option Addr) (cap : Nat) (src : List UInt8) (w : World) (hsrc : SrcAt w w.heap.size oA src) (htab : Lib.Utf8Tabs 0 1 w) (hg : 0 < w.heap.size ∧ 1 < w.heap.size) (hn : src.length ≤ 1048576) (hcap : src.length ≤ cap) :
    Calls Tryf.prog 8 #[.slice oA src.length cap, .int .i64 b] w (ZDPost src b w) := by
  have HSET := Lib.hid (Blk.new w 57 #[.int .i64 1, .slice none 0 0, .pointer none])
  have HR := Lib.hid hsrc
  have HT := Lib.hid htab
  clear hsrc htab
  go_enter Tryf.func8, Tryf.ntmps8
  go_wp2_with (go_at_call 17; go_in)
  refine (addFile_any w.heap.size _ src.length _ HSET.out hn).mono ?_
  rintro e w1 ⟨gF, lv, rfl, hgF, hf, hown, hos, htp, hout, hsz, hfr⟩
  have hsz0 : w.heap.size + 1 ≤ w1.heap.size := by simpa using hsz
  have hb1 : Below w.heap.size w w1 := ⟨hos, htp, hout, by omega, fun k hk => (hfr k (by simp; omega) (by omega)).trans (Below.heap_alloc _ _ _ hk)⟩
  have hgF0 : w.heap.size + 1 ≤ gF := by simpa using hgF
  have hown0 : w1.ownsRow (w.heap.size + 1) 3 1 lv 1 (lnCells [0]) := by
    have e : (w.alloc (.cells #[.int .i64 1, .slice none 0 0, .pointer none] 57)).heap.size = w.heap.size + 1 := by simp
    rw [e] at hown
    exact hown
  have hsrc1 : SrcAt w1 (w.heap.size + 1) oA src := by
    rcases HR.out with h0 | ⟨b, o, e, hb, hc⟩
    · exact Or.inl h0
    · exact Or.inr ⟨b, o, e, by omega, fun i hi => (hb1.cell (p := ⟨b, o + i, none⟩) hb).trans (hc i hi)⟩
  have htab1 := tabs_keep HT.out hg.1 hg.2 hb1.block
  have HN := Lib.hid (newScanner_any (w.heap.size + 1) gF oA cap _ src lv 0 w1 (by omega) hf hown0 hsrc1 htab1 (by omega) hgF0 hn hcap)
  have B1 := Lib.hid hb1
  clear hf hown hown0 hsrc1 htab1 hb1 hfr hos htp hout hgF hsz
  go_wp2_with fail
  refine HN.out.mono ?_
  rintro e w2 ⟨gS, rfl, hs2, hb2⟩
  obtain ⟨F, hFg, hFB0, hs3⟩ : ∃ F : Fix, F.gS = gS ∧ F.B = w.heap.size + 1 ∧ SC F src (stNew src 0) w2 := ⟨_, rfl, rfl, hs2⟩
  have hFB : w.heap.size ≤ F.B := by omega
  have H2 := Lib.hid hs3
  have B2 := Lib.hid (B1.out.trans (hb2.mono (by omega)))
  clear hs2 hs3 hb2 HN B1 hFB0
  subst hFg
  have hso := stNew_off src 0
  go_wp2_with fail
  refine (digits_any F src b _ _ H2.out (stNew_good src 0) hb0 hb (by omega)).mono ?_
  rintro e w3 ⟨t, rfl, hdr, hway, hs3, hb3⟩
  have d3 : w3.cell? ⟨F.gS, 3, none⟩ = some (.int .i64 (t.off : Int)) := by rw [hs3.blkS.cell]; rfl
  have HX := Lib.hid (And.intro hdr (And.intro hs3.off (B2.out.trans (hb3.mono hFB))))
  clear hdr hway hs3 hb3 H2 B2
  go_wp2_with fail
  go_ret
  exact ⟨t, rfl, HX.out.1, HX.out.2.1, HX.out.2.2⟩

set_option maxHeartbeats 4000000 in
theorem law_dig (oA : Option Addr) (cap : Nat) (l : List UInt8) (b1 b2 : Int) (w : World) (hcap : l.length ≤ cap) (hmax : cap ≤ maxLen) (hsrc : SrcAt w w.heap.size oA l) (hnil : oA = none → l = [] ∧ cap = 0) (hb10 : -9223372036854775808 ≤ b1) (hb19 : b1 ≤ 9223372036854775807) (hb20 : -9223372036854775808 ≤ b2) (hb29 : b2 ≤ 9223372036854775807)
    (htab : Lib.Utf8Tabs 0 1 w) (hg : 0 < w.heap.size ∧ 1 < w.heap.size) :
    Calls Tryf.prog 3 #[.slice oA l.length cap, .int .i64 b1, .int .i64 b2] w fun e w' => e = .returned (.bool true) ∧ Below w.heap.size w w' := by
  have hlen : l.length ≤ 9223372036854775807 := by simp only [maxLen] at hmax; omega
  have HB := fun W => bytes_dig oA l.length cap b1 b2 W hlen
  by_cases hl20 : l.length ≤ 1048576
  rotate_left
  · rw [decide_eq_false hl20] at HB
    clear hsrc htab hl20
    go_enter Tryf.func3, Tryf.ntmps3
    go_wp2_with (go_at_call 6; refine (HB _).mono ?_; rintro e w2 ⟨rfl, rfl⟩)
    go_ret
    exact ⟨rfl, Below.refl _ _⟩
  rw [decide_eq_true hl20] at HB
  have t0 : decide ((l.length : Int) > 1048576) = false := by simp; omega
  by_cases h1 : b1 ≤ 16
  rotate_left
  · have t1 : decide (b1 > 16) = true := by simp; omega
    clear hsrc htab hl20
    go_enter Tryf.func3, Tryf.ntmps3
    go_wp2_with (go_at_call 6; refine (HB _).mono ?_; rintro e w2 ⟨rfl, rfl⟩)
    go_ret
    exact ⟨rfl, Below.refl _ _⟩
  have t1 : decide (b1 > 16) = false := by simp; omega
  by_cases h2 : b2 ≤ 16
  rotate_left
  · have t2 : decide (b2 > 16) = true := by simp; omega
    clear hsrc htab hl20
    go_enter Tryf.func3, Tryf.ntmps3
    go_wp2_with (go_at_call 6; refine (HB _).mono ?_; rintro e w2 ⟨rfl, rfl⟩)
    go_ret
    exact ⟨rfl, Below.refl _ _⟩
  have t2 : decide (b2 > 16) = false := by simp; omega
  have HC := Lib.hid (clone_any oA cap l w hsrc hnil (by omega))
  have HT := Lib.hid htab
  clear hsrc htab hnil
  rcases (show (decide (b1 > b2) = true ∧ b2 ≤ b1) ∨ (decide (b1 > b2) = false ∧ b1 ≤ b2) by
    by_cases hh : b1 > b2
    · exact Or.inl ⟨by simpa using hh, by omega⟩
    · exact Or.inr ⟨by simpa using hh, by omega⟩) with ⟨t3, hle⟩ | ⟨t3, hle⟩
  · go_enter Tryf.func3, Tryf.ntmps3
    go_wp2_with (go_at_call 6; refine (HB _).mono ?_; rintro e w2 ⟨rfl, rfl⟩)
    refine HC.out.mono ?_
    rintro e w1 ⟨oB, cap1, rfl, hcap1, hsrc1, _, hb1⟩
    have hz1 := hb1.size
    have T1 := Lib.hid (tabs_keep HT.out hg.1 hg.2 hb1.block)
    have S1 := Lib.hid hsrc1
    have B1 := Lib.hid hb1
    clear hsrc1 hb1 HC HT HB
    go_wp2_with fail
    refine (zzdig_any b2 (by omega) (by omega) oB cap1 l w1 S1.out T1.out (by omega) (by omega) hcap1).mono ?_
    rintro e w2 ⟨u1, rfl, hd1, ho1, hb2⟩
    have hz2 := hb2.size
    have S2 := Lib.hid ((S1.out.keep hb2.block).more hz2)
    have T2 := Lib.hid (tabs_keep (B := w1.heap.size) T1.out (by omega) (by omega) hb2.block)
    have D1 := Lib.hid hd1
    have B2 := Lib.hid (B1.out.trans (hb2.mono hz1))
    clear hd1 hb2 S1 T1 B1
    go_wp2_with fail
    refine (zzdig_any b1 (by omega) (by omega) oB cap1 l w2 S2.out T2.out (by omega) (by omega) hcap1).mono ?_
    rintro e w3 ⟨u2, rfl, hd2, ho2, hb3⟩
    have hz3 := hb3.size
    have S3 := Lib.hid ((S2.out.keep hb3.block).more hz3)
    have hm := DigR.mono hle (by omega) D1.out hd2 (stNew_good l 0)
    have hs := (DigR.good (by omega) D1.out (stNew_good l 0)).2
    rw [(stNew_off l 0).1] at hs
    have q1 : decide ((start0 l : Int) ≤ (u1.off : Int)) = true := by simp; omega
    have q2 : decide ((u1.off : Int) ≤ (u2.off : Int)) = true := by simp; omega
    have q3 : decide ((u2.off : Int) ≤ (l.length : Int)) = true := by simp; omega
    have B3 := Lib.hid (B2.out.trans (hb3.mono (by omega)))
    clear hd2 hb3 S2 T2 D1 B2
    go_wp2_with (go_at_call 9; refine (start_any oB cap1 l _ S3.out (by omega)).mono ?_; rintro e w' ⟨rfl, rfl⟩)
    go_ret
    exact ⟨rfl, B3.out⟩
  · go_enter Tryf.func3, Tryf.ntmps3
    go_wp2_with (go_at_call 6; refine (HB _).mono ?_; rintro e w2 ⟨rfl, rfl⟩)
    refine HC.out.mono ?_
    rintro e w1 ⟨oB, cap1, rfl, hcap1, hsrc1, _, hb1⟩
    have hz1 := hb1.size
    have T1 := Lib.hid (tabs_keep HT.out hg.1 hg.2 hb1.block)
    have S1 := Lib.hid hsrc1
    have B1 := Lib.hid hb1
    clear hsrc1 hb1 HC HT HB
    go_wp2_with fail
    refine (zzdig_any b1 (by omega) (by omega) oB cap1 l w1 S1.out T1.out (by omega) (by omega) hcap1).mono ?_
    rintro e w2 ⟨u1, rfl, hd1, ho1, hb2⟩
    have hz2 := hb2.size
    have S2 := Lib.hid ((S1.out.keep hb2.block).more hz2)
    have T2 := Lib.hid (tabs_keep (B := w1.heap.size) T1.out (by omega) (by omega) hb2.block)
    have D1 := Lib.hid hd1
    have B2 := Lib.hid (B1.out.trans (hb2.mono hz1))
    clear hd1 hb2 S1 T1 B1
    go_wp2_with fail
    refine (zzdig_any b2 (by omega) (by omega) oB cap1 l w2 S2.out T2.out (by omega) (by omega) hcap1).mono ?_
    rintro e w3 ⟨u2, rfl, hd2, ho2, hb3⟩
    have hz3 := hb3.size
    have S3 := Lib.hid ((S2.out.keep hb3.block).more hz3)
    have hm := DigR.mono hle (by omega) D1.out hd2 (stNew_good l 0)
    have hs := (DigR.good (by omega) D1.out (stNew_good l 0)).2
    rw [(stNew_off l 0).1] at hs
    have q1 : decide ((start0 l : Int) ≤ (u1.off : Int)) = true := by simp; omega
    have q2 : decide ((u1.off : Int) ≤ (u2.off : Int)) = true := by simp; omega
    have q3 : decide ((u2.off : Int) ≤ (l.length : Int)) = true := by simp; omega
    have B3 := Lib.hid (B2.out.trans (hb3.mono (by omega)))
    clear hd2 hb3 S2 T2 D1 B2
    go_wp2_with (go_at_call 9; refine (start_any oB cap1 l _ S3.out (by omega)).mono ?_; rintro e w' ⟨rfl, rfl⟩)
    go_ret
    exact ⟨rfl, B3.out⟩
end Go.Proofs.YtkhekeepadeldaaFmt
