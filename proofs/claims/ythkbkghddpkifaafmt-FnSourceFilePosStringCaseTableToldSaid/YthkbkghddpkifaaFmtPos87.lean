/-
  SourceFilePos.String and its law, walked. Conditions: fmt is told by the kit's own function.
-/
import Derived.Test.YthkbkghddpkifaaFmtSpfD
import Derived.Test.YthkbkghddpkifaaFmtItoa87
import Derived.Outline
namespace Go.Proofs.YthkbkghddpkifaaFmt
open Go.RowKit
open Go.Stop Go.Extern
set_option maxRecDepth 100000
set_option linter.unusedVariables false
set_option linter.unusedSimpArgs false

theorem ret_t {p : Prop} [Decidable p] (h : p) : Ending.returned (.bool true) = .returned (.bool (decide p)) := by rw [decide_eq_true h]
theorem ret_f {p : Prop} [Decidable p] (h : ¬ p) : Ending.returned (.bool false) = .returned (.bool (decide p)) := by rw [decide_eq_false h]
theorem str_eqs (s t : List UInt8) (h : s = t) : (ByteArray.mk s.toArray) = ⟨t.toArray⟩ := by rw [h]
theorem blk_new (w : World) (t : TypeId) (cs : Array Value) : IsBlk (w.alloc (.cells cs t)) w.heap.size t cs := (MapKept.heap_alloc w _).1
def posText (s : List UInt8) (line col : Int) : List UInt8 :=
  if 0 < line then (if s = [] then [] else s ++ [58]) ++ Lib.itoa line ++ (if col = 0 then [] else 58 :: Lib.itoa col) else if s = [] then [45] else s
theorem itoa_ne (n : Int) : (Lib.itoa n).isEmpty = false := by
  unfold Lib.itoa
  split
  · rfl
  · have : 1 ≤ (Lib.decDigits n.toNat).length := by
      rw [Lib.decDigits_length, Lib.nDigits]
      split <;> omega
    cases h : Lib.decDigits n.toNat
    · rw [h] at this
      simp at this
    · rfl
set_option maxHeartbeats 400000 in
theorem valid_any (s : List UInt8) (off line col : Int) (w : World) : Calls Tryf.prog 7 #[.agg #[.string ⟨s.toArray⟩, .int .i64 off, .int .i64 line, .int .i64 col]] w fun e w' => e = .returned (.bool (decide (0 < line))) ∧ Below w.heap.size w w' := by
  go_enter Tryf.func7, Tryf.ntmps7
  go_wp2
  go_ret
  exact ⟨rfl, (Below.refl _ _).alloc (Nat.le_refl _) _⟩

theorem pos_lnz (s : List UInt8) (line col : Int) (h : 0 < line) (hs : s ≠ []) (hc : col = 0) : posText s line col = s ++ [58] ++ Lib.itoa line := by
  unfold posText
  rw [if_pos h, if_neg hs, if_pos hc, List.append_nil]
theorem pos_lnc (s : List UInt8) (line col : Int) (h : 0 < line) (hs : s ≠ []) (hc : col ≠ 0) : posText s line col = s ++ [58] ++ Lib.itoa line ++ 58 :: Lib.itoa col := by
  unfold posText
  rw [if_pos h, if_neg hs, if_neg hc]
theorem pos_lez (line col : Int) (h : 0 < line) (hc : col = 0) : posText [] line col = Lib.itoa line := by
  unfold posText
  rw [if_pos h, if_pos rfl, if_pos hc, List.append_nil]
  rfl
theorem pos_lec (line col : Int) (h : 0 < line) (hc : col ≠ 0) : posText [] line col = Lib.itoa line ++ 58 :: Lib.itoa col := by
  unfold posText
  rw [if_pos h, if_pos rfl, if_neg hc]
  rfl
theorem pos_ns (s : List UInt8) (line col : Int) (h : ¬ 0 < line) (hs : s ≠ []) : posText s line col = s := by
  unfold posText
  rw [if_neg h, if_neg hs]
theorem pos_ne (line col : Int) (h : ¬ 0 < line) : posText [] line col = [45] := by
  unfold posText
  rw [if_neg h, if_pos rfl]
set_option maxHeartbeats 2000000 in
theorem str_any (I : Interp) (s : List UInt8) (off line col : Int) (w : World) (hF : I.told.answers w.tape) (hw1 : (Lit.int .i64 line).wf = true) (hw2 : (Lit.int .i64 col).wf = true) (hsl : s.length ≤ 1048576) :
    Calls Tryf.prog 5 #[.agg #[.string ⟨s.toArray⟩, .int .i64 off, .int .i64 line, .int .i64 col]] w fun e w' => e = .returned (.string ⟨(posText s line col).toArray⟩) ∧ Below w.heap.size w w' := by
  have HF := Lib.hid hF
  have HW1 := Lib.hid hw1
  have HW2 := Lib.hid hw2
  have HV := fun W => valid_any s off line col W
  have hl1 := FmtText.itoa_length_le hw1
  have hl2 := FmtText.itoa_length_le hw2
  have hi1 := itoa_ne line
  clear hF hw1 hw2
  by_cases hline : 0 < line
  · rw [decide_eq_true hline] at HV
    by_cases hs0 : s = []
    · by_cases hc : col = 0
      · have HR := Lib.hid (pos_lez line col hline hc)
        subst hs0
        rw [HR.out]
        have hcz : (col == 0) = true := by simpa using hc
        subst hc
        clear hline hcz
        have hne : (ByteArray.mk #[] ++ (ByteArray.mk (Lib.itoa line).toArray)).toList.isEmpty = false := by simp [ByteArray.toList_eq]; simpa using hi1
        go_enter Tryf.func5, Tryf.ntmps5
        go_wp2_with (go_at_call 7; refine Hid.out ?_)
        refine Lib.hid ?_
        refine (HV _).mono ?_
        rintro e w1 ⟨rfl, hb1⟩
        have hz1 : w.heap.size + 1 ≤ w1.heap.size := by have := hb1.size; simpa using this
        have d2 : w1.cell? ⟨w.heap.size, 2, none⟩ = some (.int .i64 line) := by rw [hb1.cell (p := ⟨w.heap.size, 2, none⟩) (by simp), (blk_new _ _ _).cell]; rfl
        have d3 : w1.cell? ⟨w.heap.size, 3, none⟩ = some (.int .i64 0) := by rw [hb1.cell (p := ⟨w.heap.size, 3, none⟩) (by simp), (blk_new _ _ _).cell]; rfl
        have B1 : Hid (Below w.heap.size w w1) := Lib.hid (((Below.refl _ _).alloc (Nat.le_refl _) _).trans (hb1.mono (by simp)))
        clear hb1 HV
        have hS1 := spfd0 I w1.heap.size line (w1.alloc (.cells #[.iface 3 (.int .i64 line)] 20)) (by show I.told.answers w1.tape; rw [B1.out.tape]; exact HF.out) HW1.out (by rw [(blk_new _ _ _).cell]; rfl)
        have B2 : Hid (Below w.heap.size w (w1.alloc (.cells #[.iface 3 (.int .i64 line)] 20)).drew) := Lib.hid (B1.out.alloc B1.out.size _).drew
        have d3a := (((Below.refl _ _).alloc (Nat.le_refl w1.heap.size) (.cells #[.iface 3 (.int .i64 line)] 20)).cell (p := ⟨w.heap.size, 3, none⟩) (by show w.heap.size < w1.heap.size; omega)).trans d3
        go_wp2_with fail
        go_ret
        refine ⟨?_, B2.out⟩
        simp
        apply ByteArray.ext
        simp
      · have HR := Lib.hid (pos_lec line col hline hc)
        subst hs0
        rw [HR.out]
        have hcz : (col == 0) = false := by simpa using hc
        clear hline hc
        have hne : (ByteArray.mk #[] ++ (ByteArray.mk (Lib.itoa line).toArray) ++ (ByteArray.mk (58 :: Lib.itoa col).toArray)).toList.isEmpty = false := by simp [ByteArray.toList_eq]
        go_enter Tryf.func5, Tryf.ntmps5
        go_wp2_with (go_at_call 7; refine Hid.out ?_)
        refine Lib.hid ?_
        refine (HV _).mono ?_
        rintro e w1 ⟨rfl, hb1⟩
        have hz1 : w.heap.size + 1 ≤ w1.heap.size := by have := hb1.size; simpa using this
        have d2 : w1.cell? ⟨w.heap.size, 2, none⟩ = some (.int .i64 line) := by rw [hb1.cell (p := ⟨w.heap.size, 2, none⟩) (by simp), (blk_new _ _ _).cell]; rfl
        have d3 : w1.cell? ⟨w.heap.size, 3, none⟩ = some (.int .i64 col) := by rw [hb1.cell (p := ⟨w.heap.size, 3, none⟩) (by simp), (blk_new _ _ _).cell]; rfl
        have B1 : Hid (Below w.heap.size w w1) := Lib.hid (((Below.refl _ _).alloc (Nat.le_refl _) _).trans (hb1.mono (by simp)))
        clear hb1 HV
        have hS1 := spfd0 I w1.heap.size line (w1.alloc (.cells #[.iface 3 (.int .i64 line)] 20)) (by show I.told.answers w1.tape; rw [B1.out.tape]; exact HF.out) HW1.out (by rw [(blk_new _ _ _).cell]; rfl)
        have B2 : Hid (Below w.heap.size w (w1.alloc (.cells #[.iface 3 (.int .i64 line)] 20)).drew) := Lib.hid (B1.out.alloc B1.out.size _).drew
        have d3a := (((Below.refl _ _).alloc (Nat.le_refl w1.heap.size) (.cells #[.iface 3 (.int .i64 line)] 20)).cell (p := ⟨w.heap.size, 3, none⟩) (by show w.heap.size < w1.heap.size; omega)).trans d3
        have hS2 := spfd1 I (w1.heap.size + 1) col (((w1.alloc (.cells #[.iface 3 (.int .i64 line)] 20)).alloc (.cells #[.iface 3 (.int .i64 col)] 20)).drew) (by show I.told.answers w1.tape; rw [B1.out.tape]; exact HF.out) HW2.out (by
          have := (blk_new (w1.alloc (.cells #[.iface 3 (.int .i64 line)] 20)) 20 #[.iface 3 (.int .i64 col)]).cell 0
          have e : (w1.alloc (.cells #[.iface 3 (.int .i64 line)] 20)).heap.size = w1.heap.size + 1 := by simp
          rw [e] at this
          exact this)
        have B3 : Hid (Below w.heap.size w (((w1.alloc (.cells #[.iface 3 (.int .i64 line)] 20)).alloc (.cells #[.iface 3 (.int .i64 col)] 20)).drew.drew)) := Lib.hid (((B1.out.alloc B1.out.size _).alloc (by have := B1.out.size; simp; omega) _).drew).drew
        go_wp2_with fail
        go_ret
        refine ⟨?_, B3.out⟩
        simp
        apply ByteArray.ext
        simp
    · have he1 : s.isEmpty = false := by cases s <;> simp_all
      have he2 : (!s.isEmpty) = true := by rw [he1]; rfl
      by_cases hc : col = 0
      · have HR := Lib.hid (pos_lnz s line col hline hs0 hc)
        rw [HR.out]
        have hcz : (col == 0) = true := by simpa using hc
        subst hc
        clear hs0 hline hcz
        have hne : (ByteArray.mk s.toArray ++ ByteArray.mk #[58] ++ (ByteArray.mk (Lib.itoa line).toArray)).toList.isEmpty = false := by simp [ByteArray.toList_eq]
        go_enter Tryf.func5, Tryf.ntmps5
        go_wp2_with (go_at_call 7; refine Hid.out ?_)
        refine Lib.hid ?_
        refine (HV _).mono ?_
        rintro e w1 ⟨rfl, hb1⟩
        have hz1 : w.heap.size + 1 ≤ w1.heap.size := by have := hb1.size; simpa using this
        have d2 : w1.cell? ⟨w.heap.size, 2, none⟩ = some (.int .i64 line) := by rw [hb1.cell (p := ⟨w.heap.size, 2, none⟩) (by simp), (blk_new _ _ _).cell]; rfl
        have d3 : w1.cell? ⟨w.heap.size, 3, none⟩ = some (.int .i64 0) := by rw [hb1.cell (p := ⟨w.heap.size, 3, none⟩) (by simp), (blk_new _ _ _).cell]; rfl
        have B1 : Hid (Below w.heap.size w w1) := Lib.hid (((Below.refl _ _).alloc (Nat.le_refl _) _).trans (hb1.mono (by simp)))
        clear hb1 HV
        have hS1 := spfd0 I w1.heap.size line (w1.alloc (.cells #[.iface 3 (.int .i64 line)] 20)) (by show I.told.answers w1.tape; rw [B1.out.tape]; exact HF.out) HW1.out (by rw [(blk_new _ _ _).cell]; rfl)
        have B2 : Hid (Below w.heap.size w (w1.alloc (.cells #[.iface 3 (.int .i64 line)] 20)).drew) := Lib.hid (B1.out.alloc B1.out.size _).drew
        have d3a := (((Below.refl _ _).alloc (Nat.le_refl w1.heap.size) (.cells #[.iface 3 (.int .i64 line)] 20)).cell (p := ⟨w.heap.size, 3, none⟩) (by show w.heap.size < w1.heap.size; omega)).trans d3
        go_wp2_with fail
        go_ret
        refine ⟨?_, B2.out⟩
        simp
        apply ByteArray.ext
        simp
      · have HR := Lib.hid (pos_lnc s line col hline hs0 hc)
        rw [HR.out]
        have hcz : (col == 0) = false := by simpa using hc
        clear hs0 hline hc
        have hne : (ByteArray.mk s.toArray ++ ByteArray.mk #[58] ++ (ByteArray.mk (Lib.itoa line).toArray) ++ (ByteArray.mk (58 :: Lib.itoa col).toArray)).toList.isEmpty = false := by simp [ByteArray.toList_eq]
        go_enter Tryf.func5, Tryf.ntmps5
        go_wp2_with (go_at_call 7; refine Hid.out ?_)
        refine Lib.hid ?_
        refine (HV _).mono ?_
        rintro e w1 ⟨rfl, hb1⟩
        have hz1 : w.heap.size + 1 ≤ w1.heap.size := by have := hb1.size; simpa using this
        have d2 : w1.cell? ⟨w.heap.size, 2, none⟩ = some (.int .i64 line) := by rw [hb1.cell (p := ⟨w.heap.size, 2, none⟩) (by simp), (blk_new _ _ _).cell]; rfl
        have d3 : w1.cell? ⟨w.heap.size, 3, none⟩ = some (.int .i64 col) := by rw [hb1.cell (p := ⟨w.heap.size, 3, none⟩) (by simp), (blk_new _ _ _).cell]; rfl
        have B1 : Hid (Below w.heap.size w w1) := Lib.hid (((Below.refl _ _).alloc (Nat.le_refl _) _).trans (hb1.mono (by simp)))
        clear hb1 HV
        have hS1 := spfd0 I w1.heap.size line (w1.alloc (.cells #[.iface 3 (.int .i64 line)] 20)) (by show I.told.answers w1.tape; rw [B1.out.tape]; exact HF.out) HW1.out (by rw [(blk_new _ _ _).cell]; rfl)
        have B2 : Hid (Below w.heap.size w (w1.alloc (.cells #[.iface 3 (.int .i64 line)] 20)).drew) := Lib.hid (B1.out.alloc B1.out.size _).drew
        have d3a := (((Below.refl _ _).alloc (Nat.le_refl w1.heap.size) (.cells #[.iface 3 (.int .i64 line)] 20)).cell (p := ⟨w.heap.size, 3, none⟩) (by show w.heap.size < w1.heap.size; omega)).trans d3
        have hS2 := spfd1 I (w1.heap.size + 1) col (((w1.alloc (.cells #[.iface 3 (.int .i64 line)] 20)).alloc (.cells #[.iface 3 (.int .i64 col)] 20)).drew) (by show I.told.answers w1.tape; rw [B1.out.tape]; exact HF.out) HW2.out (by
          have := (blk_new (w1.alloc (.cells #[.iface 3 (.int .i64 line)] 20)) 20 #[.iface 3 (.int .i64 col)]).cell 0
          have e : (w1.alloc (.cells #[.iface 3 (.int .i64 line)] 20)).heap.size = w1.heap.size + 1 := by simp
          rw [e] at this
          exact this)
        have B3 : Hid (Below w.heap.size w (((w1.alloc (.cells #[.iface 3 (.int .i64 line)] 20)).alloc (.cells #[.iface 3 (.int .i64 col)] 20)).drew.drew)) := Lib.hid (((B1.out.alloc B1.out.size _).alloc (by have := B1.out.size; simp; omega) _).drew).drew
        go_wp2_with fail
        go_ret
        refine ⟨?_, B3.out⟩
        simp
        apply ByteArray.ext
        simp
  · rw [decide_eq_false hline] at HV
    by_cases hs0 : s = []
    · have HR := Lib.hid (pos_ne line col hline)
      subst hs0
      rw [HR.out]
      clear hline
      go_enter Tryf.func5, Tryf.ntmps5
      go_wp2_with (go_at_call 7; refine (HV _).mono ?_; rintro e w1 ⟨rfl, hb1⟩; have B1 := Lib.hid hb1; clear hb1 HV)
      go_ret
      exact ⟨rfl, ((Below.refl _ _).alloc (Nat.le_refl _) _).trans (B1.out.mono (by simp))⟩
    · have HR := Lib.hid (pos_ns s line col hline hs0)
      rw [HR.out]
      have he1 : s.isEmpty = false := by cases s <;> simp_all
      have he2 : (!s.isEmpty) = true := by rw [he1]; rfl
      clear hline hs0
      go_enter Tryf.func5, Tryf.ntmps5
      go_wp2_with (go_at_call 7; refine (HV _).mono ?_; rintro e w1 ⟨rfl, hb1⟩; have B1 := Lib.hid hb1; clear hb1 HV)
      go_ret
      exact ⟨rfl, ((Below.refl _ _).alloc (Nat.le_refl _) _).trans (B1.out.mono (by simp))⟩


set_option maxHeartbeats 400000 in
theorem bytes_pos (s : List UInt8) (a b c : Int) (w : World) (h0 : s.length ≤ 9223372036854775807) :
    Calls Tryf.prog 4 #[.string ⟨s.toArray⟩, .int .i64 a, .int .i64 b, .int .i64 c] w fun e w' => e = .returned (.bool (decide (s.length ≤ 1048576))) ∧ w = w' := by
  go_enter Tryf.func4, Tryf.ntmps4
  go_wp2
  all_goals (go_ret; first | exact ⟨ret_t (by omega), rfl⟩ | exact ⟨ret_f (by omega), rfl⟩)
set_option maxHeartbeats 4000000 in
theorem law_pos (I : Interp) (s : List UInt8) (off line col : Int) (w : World) (hF : I.told.answers w.tape) (h0 : s.length ≤ 9223372036854775807) (hw0 : (Lit.int .i64 off).wf = true) (hw1 : (Lit.int .i64 line).wf = true) (hw2 : (Lit.int .i64 col).wf = true) :
    Calls Tryf.prog 3 #[.string ⟨s.toArray⟩, .int .i64 off, .int .i64 line, .int .i64 col] w fun e w' => e = .returned (.bool true) ∧ Below w.heap.size w w' := by
  have HB := fun W => bytes_pos s off line col W h0
  by_cases hb20 : s.length ≤ 1048576
  rotate_left
  · rw [decide_eq_false hb20] at HB
    go_enter Tryf.func3, Tryf.ntmps3
    go_wp2_with (go_at_call 4; refine (HB _).mono ?_; rintro e w2 ⟨rfl, rfl⟩)
    go_ret
    exact ⟨rfl, Below.refl _ _⟩
  rw [decide_eq_true hb20] at HB
  have t1 : decide ((s.length : Int) > 1048576) = false := by simp; omega
  have HF := Lib.hid hF
  have HW1 := Lib.hid hw1
  have HW2 := Lib.hid hw2
  have hl1 := FmtText.itoa_length_le hw1
  have hl2 := FmtText.itoa_length_le hw2
  have HST := fun W (h : I.told.answers W.tape) => str_any I s off line col W h HW1.out HW2.out hb20
  have hbd1 : -9223372036854775808 ≤ line ∧ line ≤ 9223372036854775807 := by
    have := hw1
    simpa [Lit.wf, IntKind.min, IntKind.max, IntKind.signed, IntKind.bits, Bool.and_eq_true, decide_eq_true_eq] using this
  have hbd2 : -9223372036854775808 ≤ col ∧ col ≤ 9223372036854775807 := by
    have := hw2
    simpa [Lit.wf, IntKind.min, IntKind.max, IntKind.signed, IntKind.bits, Bool.and_eq_true, decide_eq_true_eq] using this
  have HI1 := fun W => itoa_any line W hbd1.1 hbd1.2
  have HI2 := fun W => itoa_any col W hbd2.1 hbd2.2
  clear hF hw0 hw1 hw2 h0
  by_cases hline : 0 < line
  · have tl : decide (line > 0) = true := decide_eq_true hline
    by_cases hs0 : s = []
    · have he2 : (!s.isEmpty) = false := by subst hs0; rfl
      by_cases hc : col = 0
      · have HR := Lib.hid (pos_lez line col hline hc)
        subst hs0
        rw [HR.out] at HST
        have hcz : (col != 0) = false := by simpa using hc
        clear hline hc
        go_enter Tryf.func3, Tryf.ntmps3
        go_wp2_with first | (go_at_call 4; refine (HB _).mono ?_; rintro e w2 ⟨rfl, rfl⟩) | (go_at_call 5; refine (HST _ (by exact HF.out)).mono ?_; rintro e w3 ⟨rfl, hb3⟩; have B3 := Lib.hid (((Below.refl _ _).alloc (Nat.le_refl _) _).trans (hb3.mono (by simp))); clear hb3 HST HB) | (go_at_call 6; refine (HI1 _).mono ?_; rintro e w4 ⟨rfl, hb4⟩; have B4 := Lib.hid (B3.out.trans (hb4.mono B3.out.size)); clear hb4 HI1)
        go_ret
        refine ⟨?_, B4.out⟩
        first | (simp; done) | simp [ByteArray.toList_eq]
      · have HR := Lib.hid (pos_lec line col hline hc)
        subst hs0
        rw [HR.out] at HST
        have hcz : (col != 0) = true := by simpa using hc
        clear hline hc
        go_enter Tryf.func3, Tryf.ntmps3
        go_wp2_with first | (go_at_call 4; refine (HB _).mono ?_; rintro e w2 ⟨rfl, rfl⟩) | (go_at_call 5; refine (HST _ (by exact HF.out)).mono ?_; rintro e w3 ⟨rfl, hb3⟩; have B3 := Lib.hid (((Below.refl _ _).alloc (Nat.le_refl _) _).trans (hb3.mono (by simp))); clear hb3 HST HB) | (go_at_call 6; refine (HI1 _).mono ?_; rintro e w4 ⟨rfl, hb4⟩; have B4 := Lib.hid (B3.out.trans (hb4.mono B3.out.size)); clear hb4 HI1) | (go_at_call 6; refine (HI2 _).mono ?_; rintro e w5 ⟨rfl, hb5⟩; have B5 := Lib.hid (B4.out.trans (hb5.mono B4.out.size)); clear hb5 HI2)
        go_ret
        refine ⟨?_, B5.out⟩
        simp [ByteArray.toList_eq]
    · have he1 : s.isEmpty = false := by cases s <;> simp_all
      have he2 : (!s.isEmpty) = true := by rw [he1]; rfl
      by_cases hc : col = 0
      · have HR := Lib.hid (pos_lnz s line col hline hs0 hc)
        rw [HR.out] at HST
        have hcz : (col != 0) = false := by simpa using hc
        clear hs0 hline hc
        go_enter Tryf.func3, Tryf.ntmps3
        go_wp2_with first | (go_at_call 4; refine (HB _).mono ?_; rintro e w2 ⟨rfl, rfl⟩) | (go_at_call 5; refine (HST _ (by exact HF.out)).mono ?_; rintro e w3 ⟨rfl, hb3⟩; have B3 := Lib.hid (((Below.refl _ _).alloc (Nat.le_refl _) _).trans (hb3.mono (by simp))); clear hb3 HST HB) | (go_at_call 6; refine (HI1 _).mono ?_; rintro e w4 ⟨rfl, hb4⟩; have B4 := Lib.hid (B3.out.trans (hb4.mono B3.out.size)); clear hb4 HI1)
        go_ret
        refine ⟨?_, B4.out⟩
        first | (simp; done) | simp [ByteArray.toList_eq]
      · have HR := Lib.hid (pos_lnc s line col hline hs0 hc)
        rw [HR.out] at HST
        have hcz : (col != 0) = true := by simpa using hc
        clear hs0 hline hc
        go_enter Tryf.func3, Tryf.ntmps3
        go_wp2_with first | (go_at_call 4; refine (HB _).mono ?_; rintro e w2 ⟨rfl, rfl⟩) | (go_at_call 5; refine (HST _ (by exact HF.out)).mono ?_; rintro e w3 ⟨rfl, hb3⟩; have B3 := Lib.hid (((Below.refl _ _).alloc (Nat.le_refl _) _).trans (hb3.mono (by simp))); clear hb3 HST HB) | (go_at_call 6; refine (HI1 _).mono ?_; rintro e w4 ⟨rfl, hb4⟩; have B4 := Lib.hid (B3.out.trans (hb4.mono B3.out.size)); clear hb4 HI1) | (go_at_call 6; refine (HI2 _).mono ?_; rintro e w5 ⟨rfl, hb5⟩; have B5 := Lib.hid (B4.out.trans (hb5.mono B4.out.size)); clear hb5 HI2)
        go_ret
        refine ⟨?_, B5.out⟩
        simp [ByteArray.toList_eq]
  · have tl : decide (line > 0) = false := decide_eq_false hline
    by_cases hs0 : s = []
    · have HR := Lib.hid (pos_ne line col hline)
      have he2 : (!s.isEmpty) = false := by subst hs0; rfl
      subst hs0
      rw [HR.out] at HST
      clear hline
      go_enter Tryf.func3, Tryf.ntmps3
      go_wp2_with first | (go_at_call 4; refine (HB _).mono ?_; rintro e w2 ⟨rfl, rfl⟩) | (go_at_call 5; refine (HST _ (by exact HF.out)).mono ?_; rintro e w3 ⟨rfl, hb3⟩; have B3 := Lib.hid (((Below.refl _ _).alloc (Nat.le_refl _) _).trans (hb3.mono (by simp))); clear hb3 HST HB)
      go_ret
      refine ⟨?_, B3.out⟩
      simp
    · have HR := Lib.hid (pos_ns s line col hline hs0)
      have he1 : s.isEmpty = false := by cases s <;> simp_all
      have he2 : (!s.isEmpty) = true := by rw [he1]; rfl
      rw [HR.out] at HST
      clear hline hs0
      go_enter Tryf.func3, Tryf.ntmps3
      go_wp2_with first | (go_at_call 4; refine (HB _).mono ?_; rintro e w2 ⟨rfl, rfl⟩) | (go_at_call 5; refine (HST _ (by exact HF.out)).mono ?_; rintro e w3 ⟨rfl, hb3⟩; have B3 := Lib.hid (((Below.refl _ _).alloc (Nat.le_refl _) _).trans (hb3.mono (by simp))); clear hb3 HST HB)
      go_ret
      refine ⟨?_, B3.out⟩
      simp
end Go.Proofs.YthkbkghddpkifaaFmt
