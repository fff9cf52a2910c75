/-
  FnScanEscapeLocalAndShort, walked. Conditions: fmt answers by the tape; none beyond the law's own.
-/
import Derived.Test.YtkhekeepadeldaaFmtEsc
import Derived.Test.YtkhekeepadeldaaFmtEscO
import Derived.Test.YtkhekeepadeldaaFmtStart74
import Derived.Test.YtkhekeepadeldaaFmtClone74
import Derived.Test.YtkhekeepadeldaaFmtSlN
namespace Go.Proofs.YtkhekeepadeldaaFmt
open Go.RowKit
set_option maxRecDepth 100000
set_option linter.unusedVariables false

set_option maxHeartbeats 400000 in
theorem bytes_esc (o0 : Option Addr) (n0 cap0 : Nat) (q : Int) (w : World) (h0 : n0 ≤ 9223372036854775807) :
    Calls Tryf.prog 10 #[.slice o0 n0 cap0, .int .i32 q] w fun e w' => e = .returned (.bool (decide (n0 ≤ 1048576))) ∧ w = w' := by
  go_enter Tryf.func10, Tryf.ntmps10
  go_wp2
  all_goals (go_ret; first | exact ⟨ret_t (by omega), rfl⟩ | exact ⟨ret_f (by omega), rfl⟩)

def ZEPost (src : List UInt8) (q : Int) (w : World) (e : Ending) (w' : World) : Prop :=
  ∃ (n : Nat) (ok : Bool) (c : Int), e = .returned (.tuple #[.bool ok, .int .i64 (n : Int), .int .i64 c]) ∧ escO (chA src) q (start0 src) = (n, ok) ∧ n ≤ src.length ∧ Below w.heap.size w w'
set_option maxHeartbeats 2000000 in
theorem zzesc_any (I : Go.Stop.Interp) (q : Int) (hq : 0 ≤ q) (hq2 : q < 128) (oA : Option Addr) (cap : Nat) (src : List UInt8) (w : World) (hsrc : SrcAt w w.heap.size oA src) (htab : Lib.Utf8Tabs 0 1 w) (hg : 0 < w.heap.size ∧ 1 < w.heap.size) (hn : src.length ≤ 1048576) (hcap : src.length ≤ cap) (hI : I.answers w.tape) :
    Calls Tryf.prog 11 #[.slice oA src.length cap, .int .i32 q] w (ZEPost src q w) := by
  have HI := Lib.hid hI
  clear hI
  have HSET := Lib.hid (Blk.new w 57 #[.int .i64 1, .slice none 0 0, .pointer none])
  have HR := Lib.hid hsrc
  have HT := Lib.hid htab
  clear hsrc htab
  go_enter Tryf.func11, Tryf.ntmps11
  go_wp2_with (go_at_call 17; go_in)
  refine (addFile_any w.heap.size _ src.length _ HSET.out hn).mono ?_
  rintro e w1 ⟨gF, lv, rfl, hgF, hf, hown, hos, htp, hout, hsz, hfr⟩
  have hsz0 : w.heap.size + 1 ≤ w1.heap.size := by simpa using hsz
  have hb1 : Below w.heap.size w w1 := ⟨hos, htp, hout, by omega, fun k hk => (hfr k (by simp; omega) (by omega)).trans (Below.heap_alloc _ _ _ hk)⟩
  have hgF0 : w.heap.size + 1 ≤ gF := by simpa using hgF
  have hown0 : w1.ownsRow (w.heap.size + 1) 3 1 lv 1 (lnCells [0]) := by
    have e : (w.alloc (.cells #[.int .i64 1, .slice none 0 0, .pointer none] 57)).heap.size = w.heap.size + 1 := by simp
    rw [e] at hown
    exact hown
  have hsrc1 : SrcAt w1 (w.heap.size + 1) oA src := by
    rcases HR.out with h0 | ⟨b, o, e, hb, hc⟩
    · exact Or.inl h0
    · exact Or.inr ⟨b, o, e, by omega, fun i hi => (hb1.cell (p := ⟨b, o + i, none⟩) hb).trans (hc i hi)⟩
  have htab1 := tabs_keep HT.out hg.1 hg.2 hb1.block
  have HN := Lib.hid (newScanner_any (w.heap.size + 1) gF oA cap _ src lv 0 w1 (by omega) hf hown0 hsrc1 htab1 (by omega) hgF0 hn hcap)
  have B1 := Lib.hid hb1
  clear hf hown hown0 hsrc1 htab1 hb1 hfr hos htp hout hgF hsz
  go_wp2_with fail
  refine HN.out.mono ?_
  rintro e w2 ⟨gS, rfl, hs2, hb2⟩
  obtain ⟨F, hFg, hFB0, hs3⟩ : ∃ F : Fix, F.gS = gS ∧ F.B = w.heap.size + 1 ∧ SC F src (stNew src 0) w2 := ⟨_, rfl, rfl, hs2⟩
  have hFB : w.heap.size ≤ F.B := by omega
  have H2 := Lib.hid hs3
  have B2 := Lib.hid (B1.out.trans (hb2.mono (by omega)))
  clear hs2 hs3 hb2 HN B1 hFB0
  subst hFg
  have hso := stNew_off src 0
  go_wp2_with fail
  refine (escape_any I F src q _ _ (by rw [B2.out.tape]; exact HI.out) hq hq2 H2.out (stNew_good src 0) (by omega)).mono ?_
  rintro e w3 ⟨t, ok, hr, hway, rfl, hs3, hb3⟩
  have hf := hr.fn hq hq2 (stNew_good src 0)
  rw [hso.1] at hf
  have hoff : (escEnd t ok).off = t.off := by unfold escEnd; cases ok <;> rfl
  have d3 : w3.cell? ⟨F.gS, 3, none⟩ = some (.int .i64 (t.off : Int)) := by rw [hs3.blkS.cell, ← hoff]; rfl
  have d8 : w3.cell? ⟨F.gS, 8, none⟩ = some (.int .i64 ((escEnd t ok).ec : Int)) := by rw [hs3.blkS.cell]; rfl
  have HX := Lib.hid (And.intro hf.1 (And.intro hf.2.le.2.2 (B2.out.trans (hb3.mono hFB))))
  generalize (escEnd t ok).ec = ecc at *
  clear hr hway hs3 hb3 H2 B2 hf hoff
  go_wp2_with fail
  go_quiet (fail)
  go_wp2_with fail
  go_ret3
  exact ⟨t.off, ok, _, rfl, HX.out.1, HX.out.2.1, below_dn HX.out.2.2 _⟩
theorem slo_nil (W : World) : (Instr.slice 22 (.slice none 0 0) none (some (.int .i64 ((0 : Nat) : Int))) none).run Tryf.prog W = .ok (.slice none 0 0) W := by kernel_rfl
theorem chA_take (src : List UInt8) (k i : Nat) (hk : k ≤ src.length) (hi : i < k ∨ k = src.length) : chA (src.take k) i = chA src i := by
  rcases hi with hi | hi
  · unfold chA
    have hl : (src.take k).length = k := by simp; omega
    have hb : bt (src.take k) i = bt src i := by
      unfold bt
      simp [List.getD, hi]
    simp only [hl, hb, if_pos hi, if_pos (show i < src.length by omega)]
  · rw [hi, List.take_length]
theorem start_take (src : List UInt8) (k : Nat) (hk : k ≤ src.length) (h : start0 src + 1 ≤ k ∨ k = src.length) : start0 (src.take k) = start0 src := by
  rcases h with h | h
  · have hl : (src.take k).length = k := by simp; omega
    have hb : ∀ i, i < k → bt (src.take k) i = bt src i := fun i hi => by
      unfold bt
      simp [List.getD, hi]
    unfold start0 at h ⊢
    by_cases hbm : bom src
    · rw [if_pos hbm] at h ⊢
      rw [if_pos]
      obtain ⟨b1, b2, b3, b4⟩ := hbm
      exact ⟨by omega, by rw [hb 0 (by omega)]; exact b2, by rw [hb 1 (by omega)]; exact b3, by rw [hb 2 (by omega)]; exact b4⟩
    · rw [if_neg hbm, if_neg]
      rintro ⟨b1, b2, b3, b4⟩
      rw [hl] at b1
      exact hbm ⟨by omega, by rw [← hb 0 (by omega)]; exact b2, by rw [← hb 1 (by omega)]; exact b3, by rw [← hb 2 (by omega)]; exact b4⟩
  · rw [h, List.take_length]

set_option maxHeartbeats 4000000 in
theorem law_esc (I : Go.Stop.Interp) (oA : Option Addr) (cap : Nat) (l : List UInt8) (q : Int) (w : World) (hI : I.answers w.tape) (hcap : l.length ≤ cap) (hmax : cap ≤ maxLen) (hsrc : SrcAt w w.heap.size oA l) (hnil : oA = none → l = [] ∧ cap = 0) (hq0 : -2147483648 ≤ q) (hq9 : q ≤ 2147483647)
    (htab : Lib.Utf8Tabs 0 1 w) (hg : 0 < w.heap.size ∧ 1 < w.heap.size) :
    Calls Tryf.prog 4 #[.slice oA l.length cap, .int .i32 q] w fun e w' => e = .returned (.bool true) ∧ Below w.heap.size w w' := by
  have hlen : l.length ≤ 9223372036854775807 := by simp only [maxLen] at hmax; omega
  have HB := fun W => bytes_esc oA l.length cap q W hlen
  by_cases hl20 : l.length ≤ 1048576
  rotate_left
  · rw [decide_eq_false hl20] at HB
    clear hsrc htab hl20 hI
    go_enter Tryf.func4, Tryf.ntmps4
    go_wp2_with (go_at_call 10; refine (HB _).mono ?_; rintro e w2 ⟨rfl, rfl⟩)
    go_ret
    exact ⟨rfl, Below.refl _ _⟩
  rw [decide_eq_true hl20] at HB
  have t0 : decide ((l.length : Int) > 1048576) = false := by simp; omega
  by_cases h1 : 0 ≤ q
  rotate_left
  · have t1 : decide (q < 0) = true := by simp; omega
    clear hsrc htab hl20 hI
    go_enter Tryf.func4, Tryf.ntmps4
    go_wp2_with (go_at_call 10; refine (HB _).mono ?_; rintro e w2 ⟨rfl, rfl⟩)
    go_ret
    exact ⟨rfl, Below.refl _ _⟩
  have t1 : decide (q < 0) = false := by simp; omega
  by_cases h2 : q < 128
  rotate_left
  · have t2 : decide (q ≥ 128) = true := by simp; omega
    clear hsrc htab hl20 hI
    go_enter Tryf.func4, Tryf.ntmps4
    go_wp2_with (go_at_call 10; refine (HB _).mono ?_; rintro e w2 ⟨rfl, rfl⟩)
    go_ret
    exact ⟨rfl, Below.refl _ _⟩
  have t2 : decide (q ≥ 128) = false := by simp; omega
  have HC := Lib.hid (cloneOwn_any oA cap l w hsrc hnil (by omega))
  have HT := Lib.hid htab
  have HI := Lib.hid hI
  clear hsrc htab hnil hI
  go_enter Tryf.func4, Tryf.ntmps4
  go_wp2_with (go_at_call 10; refine (HB _).mono ?_; rintro e w2 ⟨rfl, rfl⟩)
  refine HC.out.mono ?_
  rintro e w1 ⟨oB, cap1, rfl, hcap1, hsrc1, hnil1, hb1, hown1⟩
  have hz1 := hb1.size
  have T1 := Lib.hid (tabs_keep HT.out hg.1 hg.2 hb1.block)
  have S1 := Lib.hid hsrc1
  have O1 := Lib.hid hown1
  have N1 := Lib.hid hnil1
  have B1 := Lib.hid hb1
  clear hsrc1 hb1 hown1 hnil1 HC HT HB
  go_wp2_with (go_at_call 9; refine (start_any oB cap1 l _ S1.out (by omega)).mono ?_; rintro e w' ⟨rfl, rfl⟩)
  refine (zzesc_any I q h1 h2 oB cap1 l w1 S1.out T1.out (by omega) (by omega) hcap1 (by rw [B1.out.tape]; exact HI.out)).mono ?_
  rintro e w2 ⟨n, ok, c2, rfl, hf, hnl, hb2⟩
  have hz2 := hb2.size
  have hle := escO_le (chA l) q (start0 l)
  rw [hf] at hle
  have hle1 : start0 l ≤ n := hle.1
  have hle2 : n ≤ start0 l + 9 := hle.2
  have q1 : decide ((n : Int) < (start0 l : Int)) = false := by simp; omega
  have q2 : decide ((n : Int) > (start0 l : Int) + 9) = false := by simp; omega
  have S2 := Lib.hid ((S1.out.keep hb2.block).more hz2)
  have T2 := Lib.hid (tabs_keep (B := w1.heap.size) T1.out (by omega) (by omega) hb2.block)
  have B2 := Lib.hid (B1.out.trans (hb2.mono hz1))
  have HFF := Lib.hid hf
  obtain ⟨k, hk⟩ : ∃ k, k = min (n + 1) l.length := ⟨_, rfl⟩
  have hkl : k ≤ l.length := by omega
  have hkc : k ≤ cap1 := by omega
  have hkk : (n + 1 ≤ l.length ∧ k = n + 1) ∨ (l.length < n + 1 ∧ k = l.length) := by omega
  have hst : start0 (l.take k) = start0 l := start_take l k hkl (by omega)
  have hfn : escO (chA (l.take k)) q (start0 (l.take k)) = (n, ok) := by
    rw [hst, ← hf]
    refine escO_local _ _ q _ (fun y y1 y2 => (chA_take l k y hkl ?_).symm)
    rw [hf] at y2
    have y3 : y ≤ n := y2
    omega
  have htl : (l.take k).length = k := by simp; omega
  have hsrck : SrcAt w2 w2.heap.size oB (l.take k) := by
    rcases S2.out with h0 | ⟨b, o, eo, hbb, hcc⟩
    · exact Or.inl (by rw [h0]; simp)
    · exact Or.inr ⟨b, o, eo, hbb, fun i hi => by
        rw [htl] at hi
        rw [hcc i (by omega)]
        simp⟩
  have hnilk : oB = none → l.take k = [] ∧ cap1 = 0 := fun hh => by
    obtain ⟨e1, e2⟩ := N1.out hh
    exact ⟨by rw [e1]; simp, e2⟩
  have HC2 := Lib.hid (clone_any oB cap1 (l.take k) w2 hsrck hnilk (by omega))
  rw [htl] at HC2
  have hsl : ∀ W, (Instr.slice 22 (.slice oB l.length cap1) none (some (.int .i64 (k : Int))) none).run Tryf.prog W = .ok (.slice oB k cap1) W := by
    intro W
    rcases own_val0 O1.out with ⟨ao, cp, hv, _, _⟩
    rcases O1.out.2 with ⟨h0, h00⟩ | ⟨g, cc, cur, hv2, _⟩
    · injection h0 with e1 e2 e3
      subst e1
      subst e3
      have : k = 0 := by omega
      subst this
      rw [h00]
      exact slo_nil W
    · injection hv2 with e1 e2 e3
      subst e1
      exact run_slo W g 0 _ _ k hkc
  have hslA : ∀ W, (Instr.sliceAt 22 (.slice oB l.length cap1) none (some (.int .i64 (k : Int))) none).run Tryf.prog W = .ok (.slice oB k cap1) W := by
    intro W
    rw [run_sliceAt_slice W _ _ _ _ _ (by rw [el_u8]; exact Tryf.underlying22)]
    exact hsl W
  have HFN := Lib.hid hfn
  clear hf hle hb2 hst hfn hsrck hnilk hk S1 T1 B1 O1 N1 HFF
  generalize htk : l.take k = lk at *
  have HTL : Hid (lk.length = k) := Lib.hid (by rw [← htk]; simp; omega)
  clear htk htl
  rcases hkk with ⟨hk1, rfl⟩ | ⟨hk1, rfl⟩
  · simp only [Int.natCast_add, Int.cast_ofNat_Int] at hsl hslA
    have t5 : decide ((n : Int) + 1 > (l.length : Int)) = false := by simp; omega
    go_wp2_with fail
    refine HC2.out.mono ?_
    rintro e w3 ⟨oK, cap3, rfl, hcap3, hsrc3, _, hb3⟩
    have hz3 := hb3.size
    have T3 := Lib.hid (tabs_keep (B := w2.heap.size) T2.out (by omega) (by omega) hb3.block)
    have HZ := Lib.hid (zzesc_any I q h1 h2 oK cap3 lk w3 hsrc3 T3.out (by omega) (by have := HTL.out; omega) hcap3 (by rw [hb3.tape, B2.out.tape]; exact HI.out))
    have B3 := Lib.hid (B2.out.trans (hb3.mono (by omega)))
    rw [HTL.out] at HZ ⊢
    clear hsrc3 hb3 T2 T3 HC2 hsl hslA S2 B2 hcap3
    go_wp2_with fail
    refine HZ.out.mono ?_
    rintro e w4 ⟨n4, ok4, c4, rfl, hf4, _, hb4⟩
    rw [HFN.out] at hf4
    injection hf4 with e1 e2
    subst e1
    subst e2
    have B4 := Lib.hid (B3.out.trans (hb4.mono (by omega)))
    have q5 : (ok == ok) = true := by simp
    clear hb4 B3 HZ
    go_wp2_with fail
    go_ret
    exact ⟨by first | rfl | (cases ok <;> rfl), B4.out⟩
  · have t5 : decide ((n : Int) + 1 > (l.length : Int)) = true := by simp; omega
    go_wp2_with fail
    refine HC2.out.mono ?_
    rintro e w3 ⟨oK, cap3, rfl, hcap3, hsrc3, _, hb3⟩
    have hz3 := hb3.size
    have T3 := Lib.hid (tabs_keep (B := w2.heap.size) T2.out (by omega) (by omega) hb3.block)
    have HZ := Lib.hid (zzesc_any I q h1 h2 oK cap3 lk w3 hsrc3 T3.out (by omega) (by have := HTL.out; omega) hcap3 (by rw [hb3.tape, B2.out.tape]; exact HI.out))
    have B3 := Lib.hid (B2.out.trans (hb3.mono (by omega)))
    rw [HTL.out] at HZ ⊢
    clear hsrc3 hb3 T2 T3 HC2 hsl hslA S2 B2 hcap3
    go_wp2_with fail
    refine HZ.out.mono ?_
    rintro e w4 ⟨n4, ok4, c4, rfl, hf4, _, hb4⟩
    rw [HFN.out] at hf4
    injection hf4 with e1 e2
    subst e1
    subst e2
    have B4 := Lib.hid (B3.out.trans (hb4.mono (by omega)))
    have q5 : (ok == ok) = true := by simp
    clear hb4 B3 HZ
    go_wp2_with fail
    go_ret
    exact ⟨by first | rfl | (cases ok <;> rfl), B4.out⟩
end Go.Proofs.YtkhekeepadeldaaFmt
