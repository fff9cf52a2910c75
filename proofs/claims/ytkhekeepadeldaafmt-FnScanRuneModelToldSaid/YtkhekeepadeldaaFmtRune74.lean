/-
  FnScanRuneModel, walked. Conditions: fmt answers by the tape; none beyond the law's own.
-/
import Derived.Test.YtkhekeepadeldaaFmtEscB
import Derived.Test.YtkhekeepadeldaaFmtStart74
import Derived.Test.YtkhekeepadeldaaFmtClone74
import Derived.Test.YtkhekeepadeldaaFmtSlN
namespace Go.Proofs.YtkhekeepadeldaaFmt
open Go.RowKit
set_option maxRecDepth 100000
set_option linter.unusedVariables false

set_option maxHeartbeats 400000 in
theorem bytes_rune (o0 : Option Addr) (n0 cap0 : Nat) (w : World) (h0 : n0 ≤ 9223372036854775807) :
    Calls Tryf.prog 12 #[.slice o0 n0 cap0] w fun e w' => e = .returned (.bool (decide (n0 ≤ 1048576))) ∧ w = w' := by
  go_enter Tryf.func12, Tryf.ntmps12
  go_wp2
  all_goals (go_ret; first | exact ⟨ret_t (by omega), rfl⟩ | exact ⟨ret_f (by omega), rfl⟩)

theorem stNew_ec0 (src : List UInt8) (hn : 0 < src.length) (ha : bt src 0 < 128) (hz : bt src 0 ≠ 0) : (stNew src 0).ec = 0 := by
  have hw := (rn_facts src 0 hn).2.2.2.2.2 ha
  have hr : (st0 0).rd < src.length := hn
  have e : nx src (st0 0) = { nl src.length (st0 0).rd (st0 0) with off := (st0 0).rd, rd := (st0 0).rd + (rn src (st0 0).rd).2, ch := ((rn src (st0 0).rd).1 : Int), ec := (st0 0).ec + (if badc src (st0 0).rd then 1 else 0) } := by
    unfold nx
    rw [if_pos hr]
  have hch : (nx src (st0 0)).ch = (bt src 0 : Int) := by
    rw [e]
    show ((rn src 0).1 : Int) = _
    rw [hw]
  have es : stNew src 0 = nx src (st0 0) := by
    unfold stNew
    rw [if_neg (by rw [hch]; omega)]
  rw [es, e]
  show 0 + (if badc src 0 = true then 1 else 0) = 0
  have hb : badc src 0 = false := by
    unfold badc
    rw [hw]
    simp
    omega
  rw [hb]
  rfl
/-- a raw string over plain ASCII -/
def RWPost (src : List UInt8) (w : World) (e : Ending) (w' : World) : Prop :=
  ∃ (en c r : Nat) (b : Bool), RwR src 1 0 0 en b c r ∧ en ≤ src.length ∧ e = .returned (.tuple #[.int .i64 (en : Int), .bool b, .int .i64 (c : Int), .int .i64 (r : Int)]) ∧ w = w'
theorem results_tmp4 {P : Program} {fn : Func} {t u v x : Tmp} (h : fn.results = #[.tmp t, .tmp u, .tmp v, .tmp x]) (tmps : Array Value) (w : World) :
    (results fn tmps).run P w = .ok (.tuple #[tmps.getD t undef, tmps.getD u undef, tmps.getD v undef, tmps.getD x undef]) w := by
  simp [results, h]
theorem escLO_end {src : List UInt8} {b : Nat} (hb : b ≤ 16) : ∀ (n x i : Nat), i ≤ src.length → (escLO (chA src) b n x i).1 ≤ src.length
  | 0, x, i, h => h
  | n + 1, x, i, h => by
    rw [escLO]
    split
    · rename_i hd
      refine escLO_end hb n _ (i + 1) ?_
      rcases Nat.lt_or_ge i src.length with h1 | h1
      · exact h1
      · rw [chA_ge h1] at hd
        have : dv (-1) = 16 := rfl
        omega
    · exact h
theorem escO_end {src : List UInt8} {q : Int} (hq : 0 ≤ q) (i : Nat) (h : i ≤ src.length) : (escO (chA src) q i).1 ≤ src.length := by
  unfold escO
  split
  · rename_i hs
    rcases Nat.lt_or_ge i src.length with h1 | h1
    · exact h1
    · have := escSimple_pos hq hs
      rw [chA_ge h1] at this
      omega
  · split
    · exact h
    · rename_i n b m k hN
      have hk := escN_some hN
      have hlt : i < src.length := by
        rcases Nat.lt_or_ge i src.length with h1 | h1
        · exact h1
        · rw [chA_ge h1] at hk
          omega
      exact escLO_end (by omega) n 0 _ (by cases k <;> simp <;> omega)
set_option maxHeartbeats 4000000 in
theorem walk_any (oA : Option Addr) (cap : Nat) (src : List UInt8) (w : World) (hsrc : SrcAt w w.heap.size oA src) (hn : src.length ≤ 1048576) (h1 : 1 ≤ src.length) :
    Calls Tryf.prog 13 #[.slice oA src.length cap] w (RWPost src w) := by
  have HS := Lib.hid hsrc
  obtain ⟨b, o, rfl, hbb, hcc⟩ := hsrc.at_ (by omega)
  have HCC := Lib.hid hcc
  clear hsrc hcc
  go_enter Tryf.func13, Tryf.ntmps13
  go_wp2_with fail
  go_loop [6, 7, 8] (fun v6 v7 v8 => ∃ i c r : Nat, i ≤ src.length ∧ c ≤ i ∧ r ≤ i ∧ v6 = .int .i64 (i : Int) ∧ v7 = .int .i64 (c : Int) ∧ v8 = .int .i64 (r : Int) ∧ (∀ en b c' r', RwR src i c r en b c' r' → RwR src 1 0 0 en b c' r')) (fun v6 _ _ => src.length - (intOf v6).toNat)
  case atStart => exact ⟨1, 0, 0, h1, by omega, by omega, rfl, rfl, rfl, fun _ _ _ _ h => h⟩
  case round =>
    obtain ⟨i, c, r, hi, hci, hri, rfl, rfl, rfl, hr⟩ := hrel
    have HR := Lib.hid hr
    clear hr
    by_cases hlt : i < src.length
    rotate_left
    · obtain rfl : i = src.length := by omega
      have HE := Lib.hid (HR.out _ _ _ _ (RwR.stop (fun h => absurd h hlt)))
      clear HR
      go_wp2_with fail
      refine bodyPost_ret (results_tmp4 rfl _ _) rfl ?_
      exact ⟨src.length, c, r, false, HE.out, Nat.le_refl _, rfl, rfl⟩
    have c0 : w.cell? ⟨b, o + i, none⟩ = some (.int .u8 (bt src i : Int)) := by
      rw [HCC.out i hlt]
      simp [bt, List.getD, hlt]
    by_cases h10 : bt src i = 10
    · have HE := Lib.hid (HR.out _ _ _ _ (RwR.stop (fun _ => h10)))
      rw [h10] at c0
      simp only [Int.cast_ofNat_Int] at c0
      clear HR h10
      go_wp2_with fail
      refine bodyPost_ret (results_tmp4 rfl _ _) rfl ?_
      exact ⟨i, c, r, false, HE.out, hi, rfl, rfl⟩
    have t10 : ((bt src i : Int) != 10) = true := by simp; omega
    have t10b : ((bt src i : Int) == 10) = false := by simp; omega
    by_cases h39 : bt src i = 39
    · have HE := Lib.hid (HR.out _ _ _ _ (RwR.shut hlt h39))
      rw [h39] at c0
      simp only [Int.cast_ofNat_Int] at c0
      clear HR h39 h10 t10 t10b
      go_wp2_with fail
      refine bodyPost_ret (results_tmp4 rfl _ _) rfl ?_
      exact ⟨i + 1, c, r, true, HE.out, hlt, by simp, rfl⟩
    have t39 : ((bt src i : Int) == 39) = false := by simp; omega
    by_cases h92 : bt src i = 92
    · have HE := Lib.hid (fun en b c' r' h => HR.out en b c' r' (RwR.esc hlt h92 h))
      have HEB := Lib.hid (eb_any (some ⟨b, o, none⟩) cap src (i + 1) w HS.out hn (by omega))
      have hle := escO_le (chA src) 39 (i + 1)
      have hen := escO_end (src := src) (q := 39) (by decide) (i + 1) hlt
      rw [show (((i + 1 : Nat) : Int)) = (i : Int) + 1 by simp] at HEB
      rw [h92] at c0
      simp only [Int.cast_ofNat_Int] at c0
      unfold EBPost at HEB
      obtain ⟨j, hj⟩ : ∃ j, (escO (chA src) 39 (i + 1)).1 = j := ⟨_, rfl⟩
      obtain ⟨ok, hok⟩ : ∃ ok, (escO (chA src) 39 (i + 1)).2 = ok := ⟨_, rfl⟩
      rw [hj, hok] at HEB HE
      rw [hj] at hle hen
      clear HR h39 h10 t10 t10b t39 h92 hj hok
      cases ok
      · go_wp2_with (go_at_call 21; refine HEB.out.mono ?_; rintro e w' ⟨rfl, rfl⟩)
        go_round
        case rel => exact ⟨j, c + 1, r + 1, hen, by omega, by omega, rfl, by go_num, by go_num, HE.out⟩
        case measure => simp [intOf]; omega
      · go_wp2_with (go_at_call 21; refine HEB.out.mono ?_; rintro e w' ⟨rfl, rfl⟩)
        go_round
        case rel => exact ⟨j, c + 1, r, hen, by omega, by omega, rfl, by go_num, rfl, HE.out⟩
        case measure => simp [intOf]; omega
    have t92 : ((bt src i : Int) == 92) = false := by simp; omega
    have HE := Lib.hid (fun en b c' r' h => HR.out en b c' r' (RwR.plain hlt h10 h39 h92 h))
    clear HR h39 h10 h92
    generalize bt src i = z at *
    go_wp2_with fail
    go_round
    case rel => exact ⟨i + 1, c + 1, r, hlt, by omega, by omega, by go_num, by go_num, rfl, HE.out⟩
    case measure => simp [intOf]; omega
def PAPost (src : List UInt8) (w : World) (e : Ending) (w' : World) : Prop := ∃ b : Bool, e = .returned (.bool b) ∧ (b = true → plainA src) ∧ w = w'
set_option maxHeartbeats 1000000 in
theorem plainA_any (oA : Option Addr) (cap : Nat) (src : List UInt8) (w : World) (hsrc : SrcAt w w.heap.size oA src) (hn : src.length ≤ 1048576) (h1 : 1 ≤ src.length) :
    Calls Tryf.prog 15 #[.slice oA src.length cap] w (PAPost src w) := by
  obtain ⟨b, o, rfl, hbb, hcc⟩ := hsrc.at_ (by omega)
  have HCC := Lib.hid hcc
  clear hsrc hcc
  go_enter Tryf.func15, Tryf.ntmps15
  go_wp2_with fail
  go_loop [3] (fun v => ∃ i : Nat, i ≤ src.length ∧ v = .int .i64 (i : Int) ∧ (∀ k, k < i → 0 < bt src k ∧ bt src k < 128)) (fun v => src.length - (intOf v).toNat)
  case atStart => exact ⟨0, Nat.zero_le _, rfl, fun k hk => by omega⟩
  case round =>
    obtain ⟨i, hi, rfl, hr⟩ := hrel
    have HR := Lib.hid hr
    clear hr
    by_cases hlt : i < src.length
    rotate_left
    · obtain rfl : i = src.length := by omega
      go_wp2_with fail
      go_ret
      exact ⟨true, rfl, fun _ => HR.out, rfl⟩
    have c0 : w.cell? ⟨b, o + i, none⟩ = some (.int .u8 (bt src i : Int)) := by
      rw [HCC.out i hlt]
      simp [bt, List.getD, hlt]
    by_cases h0 : bt src i = 0
    · rw [h0] at c0
      simp only [Int.cast_ofNat_Int] at c0
      clear h0
      go_wp2_with fail
      go_ret
      exact ⟨false, rfl, fun h => (nomatch h), rfl⟩
    have t0 : ((bt src i : Int) == 0) = false := by simp; omega
    by_cases h8 : 128 ≤ bt src i
    · have h8' : (128 : Int) ≤ (bt src i : Int) := by omega
      clear h0
      generalize bt src i = z at *
      go_wp2_with fail
      go_ret
      exact ⟨false, rfl, fun h => (nomatch h), rfl⟩
    have h8' : (bt src i : Int) < 128 := by omega
    have HN := Lib.hid (show ∀ k, k < i + 1 → 0 < bt src k ∧ bt src k < 128 from fun k hk => by
      by_cases hki : k = i
      · subst hki
        omega
      · exact HR.out k (by omega))
    clear h0 h8
    generalize bt src i = z at *
    go_wp2_with fail
    go_round
    case rel => exact ⟨i + 1, hlt, by go_num, HN.out⟩
    case measure => simp [intOf]; omega

def ZRPost (src : List UInt8) (w : World) (e : Ending) (w' : World) : Prop :=
  ∃ (t : St) (b v : Bool) (n : Nat), RunR src (nx src (stNew src 0)) 0 true t b n v ∧ t.off ≤ src.length ∧ e = .returned (.tuple #[.string ⟨(src.take t.off).toArray⟩, .int .i64 (t.off : Int), .int .i64 ((runEnd t b n v).ec : Int)]) ∧ Below w.heap.size w w'
theorem cut_take (src : List UInt8) (k : Nat) : cut src 0 k = src.take k := by simp [cut]
set_option maxHeartbeats 2000000 in
theorem zzrune_any (I : Go.Stop.Interp) (oA : Option Addr) (cap : Nat) (src : List UInt8) (w : World) (hsrc : SrcAt w w.heap.size oA src) (htab : Lib.Utf8Tabs 0 1 w) (hg : 0 < w.heap.size ∧ 1 < w.heap.size) (hn : src.length ≤ 1048576) (hcap : src.length ≤ cap) (hI : I.answers w.tape) (h1 : 1 ≤ src.length) (h39 : bt src 0 = 39) :
    Calls Tryf.prog 14 #[.slice oA src.length cap] w (ZRPost src w) := by
  have HI := Lib.hid hI
  clear hI
  have HSET := Lib.hid (Blk.new w 57 #[.int .i64 1, .slice none 0 0, .pointer none])
  have HR := Lib.hid hsrc
  have HT := Lib.hid htab
  clear hsrc htab
  go_enter Tryf.func14, Tryf.ntmps14
  go_wp2_with (go_at_call 17; go_in)
  refine (addFile_any w.heap.size _ src.length _ HSET.out hn).mono ?_
  rintro e w1 ⟨gF, lv, rfl, hgF, hf, hown, hos, htp, hout, hsz, hfr⟩
  have hsz0 : w.heap.size + 1 ≤ w1.heap.size := by simpa using hsz
  have hb1 : Below w.heap.size w w1 := ⟨hos, htp, hout, by omega, fun k hk => (hfr k (by simp; omega) (by omega)).trans (Below.heap_alloc _ _ _ hk)⟩
  have hgF0 : w.heap.size + 1 ≤ gF := by simpa using hgF
  have hown0 : w1.ownsRow (w.heap.size + 1) 3 1 lv 1 (lnCells [0]) := by
    have e : (w.alloc (.cells #[.int .i64 1, .slice none 0 0, .pointer none] 57)).heap.size = w.heap.size + 1 := by simp
    rw [e] at hown
    exact hown
  have hsrc1 : SrcAt w1 (w.heap.size + 1) oA src := by
    rcases HR.out with h0 | ⟨b, o, e, hb, hc⟩
    · exact Or.inl h0
    · exact Or.inr ⟨b, o, e, by omega, fun i hi => (hb1.cell (p := ⟨b, o + i, none⟩) hb).trans (hc i hi)⟩
  have htab1 := tabs_keep HT.out hg.1 hg.2 hb1.block
  have HN := Lib.hid (newScanner_any (w.heap.size + 1) gF oA cap _ src lv 0 w1 (by omega) hf hown0 hsrc1 htab1 (by omega) hgF0 hn hcap)
  have B1 := Lib.hid hb1
  clear hf hown hown0 hsrc1 htab1 hb1 hfr hos htp hout hgF hsz
  go_wp2_with fail
  refine HN.out.mono ?_
  rintro e w2 ⟨gS, rfl, hs2, hb2⟩
  obtain ⟨F, hFg, hFB0, hs3⟩ : ∃ F : Fix, F.gS = gS ∧ F.B = w.heap.size + 1 ∧ SC F src (stNew src 0) w2 := ⟨_, rfl, rfl, hs2⟩
  have hFB : w.heap.size ≤ F.B := by omega
  have H2 := Lib.hid hs3
  have B2 := Lib.hid (B1.out.trans (hb2.mono (by omega)))
  clear hs2 hs3 hb2 HN B1 hFB0
  subst hFg
  have hst := stNew_ascii src (by omega) (by omega)
  obtain ⟨n1, n2, n3, n4, n5⟩ := nx_ascii (stNew_good src 0) (by omega) (by rw [hst.1]; omega)
  have st := step_of (stNew_good src 0) (by rw [n1]; omega)
  have hec1 := st.ec
  have HST : Hid (Good src (nx src (stNew src 0)) ∧ (nx src (stNew src 0)).off = 1) := Lib.hid ⟨n3, by rw [n2, hst.1]⟩
  have hec2 := hst.2
  clear n1 n2 n3 n4 n5 st hst
  go_wp2_with fail
  refine (next_any F src _ _ H2.out (by omega)).mono ?_
  rintro e w6 ⟨rfl, hs6, hb6⟩
  have H6 := Lib.hid hs6
  have B6 := Lib.hid (B2.out.trans (hb6.mono hFB))
  clear hs6 hb6 H2 B2
  obtain ⟨s6, hs6⟩ : ∃ s6, s6 = nx src (stNew src 0) := ⟨_, rfl⟩
  have HS6 := Lib.hid hs6
  rw [← hs6] at HST H6 hec1
  clear hs6
  have HR := Lib.hid (rune_any I F src s6 w6 (by rw [B6.out.tape]; exact HI.out) H6.out HST.out.1 (by rw [HST.out.2]; omega) (by omega))
  go_wp2_with fail
  refine HR.out.mono ?_
  rintro e w3 ⟨t, b, n, v, hr, hway, rfl, hs3, hb3⟩
  rw [HST.out.2, show 1 - 1 = 0 from rfl, cut_take]
  have d3 : w3.cell? ⟨F.gS, 3, none⟩ = some (.int .i64 (t.off : Int)) := by rw [hs3.blkS.cell, ← runEnd_off t b n v]; rfl
  have d8 : w3.cell? ⟨F.gS, 8, none⟩ = some (.int .i64 ((runEnd t b n v).ec : Int)) := by rw [hs3.blkS.cell]; rfl
  have hoff := hs3.off
  rw [runEnd_off] at hoff
  have HX : Hid (RunR src (nx src (stNew src 0)) 0 true t b n v ∧ t.off ≤ src.length ∧ Below w.heap.size w w3) := Lib.hid (And.intro (by rw [← HS6.out]; exact hr) (And.intro hoff (B6.out.trans (hb3.mono hFB))))
  obtain ⟨ecc, hecc⟩ : ∃ ecc, (runEnd t b n v).ec = ecc := ⟨_, rfl⟩
  have HEC := Lib.hid hecc
  rw [hecc] at d8
  clear hr hway hs3 hb3 H6 B6 hoff hecc HR HS6
  go_wp2_with fail
  go_quiet (fail)
  go_wp2_with fail
  go_ret3
  exact ⟨t, b, v, n, HX.out.1, HX.out.2.1, (by rw [HEC.out]; rfl), below_dn HX.out.2.2 _⟩
theorem rune_string {W : World} {g e cap : Nat} (l : List UInt8) (he : e ≤ l.length) (hc : ∀ i (h : i < l.length), W.cell? ⟨g, 0 + i, none⟩ = some (.int .u8 (l[i].toNat : Int))) :
    (convert 22 9 (.slice (some ⟨g, 0, none⟩) e cap)).run Tryf.prog W = .ok (.string ⟨(l.take e).toArray⟩) W := by
  have hl : (l.take e).length = e := by simp; omega
  have := run_txt (l.take e) g 0 cap W (fun i hi => by
    rw [hc i (by omega)]
    simp)
  rw [hl] at this
  exact this
set_option maxHeartbeats 4000000 in
theorem law_rune (I : Go.Stop.Interp) (oA : Option Addr) (cap : Nat) (l : List UInt8) (w : World) (hI : I.answers w.tape) (hcap : l.length ≤ cap) (hmax : cap ≤ maxLen) (hsrc : SrcAt w w.heap.size oA l) (hnil : oA = none → l = [] ∧ cap = 0)
    (htab : Lib.Utf8Tabs 0 1 w) (hg : 0 < w.heap.size ∧ 1 < w.heap.size) :
    Calls Tryf.prog 5 #[.slice oA l.length cap] w fun e w' => e = .returned (.bool true) ∧ Below w.heap.size w w' := by
  have hlen : l.length ≤ 9223372036854775807 := by simp only [maxLen] at hmax; omega
  have HB := fun W => bytes_rune oA l.length cap W hlen
  by_cases hl20 : l.length ≤ 1048576
  rotate_left
  · rw [decide_eq_false hl20] at HB
    clear hsrc htab hl20 hI
    go_enter Tryf.func5, Tryf.ntmps5
    go_wp2_with (go_at_call 12; refine (HB _).mono ?_; rintro e w2 ⟨rfl, rfl⟩)
    go_ret
    exact ⟨rfl, Below.refl _ _⟩
  rw [decide_eq_true hl20] at HB
  have t0 : decide ((l.length : Int) > 1048576) = false := by simp; omega
  by_cases hz : l.length = 0
  · have t1 : ((l.length : Int) == 0) = true := by rw [hz]; rfl
    clear hsrc htab hl20 hI hz
    go_enter Tryf.func5, Tryf.ntmps5
    go_wp2_with (go_at_call 12; refine (HB _).mono ?_; rintro e w2 ⟨rfl, rfl⟩)
    go_ret
    exact ⟨rfl, Below.refl _ _⟩
  have h1 : 1 ≤ l.length := by omega
  have t1 : ((l.length : Int) == 0) = false := by simpa using (show ¬ (l.length : Int) = 0 by omega)
  obtain ⟨b, o, e, hbb, hcc⟩ := hsrc.at_ (by omega)
  have c0 : w.cell? ⟨b, o, none⟩ = some (.int .u8 (bt l 0 : Int)) := by
    have := hcc 0 (by omega)
    rw [Nat.add_zero] at this
    rw [this]
    simp [bt, List.getD, show 0 < l.length by omega]
  clear hcc hz
  by_cases h39 : bt l 0 = 39
  rotate_left
  · have t2 : ((bt l 0 : Int) != 39) = true := by simp; omega
    have t2b : ((bt l 0 : Int) == 39) = false := by simp; omega
    clear hsrc htab hl20 hI h39
    generalize bt l 0 = z at *
    subst e
    go_enter Tryf.func5, Tryf.ntmps5
    go_wp2_with (go_at_call 12; refine (HB _).mono ?_; rintro e w2 ⟨rfl, rfl⟩)
    go_ret
    exact ⟨rfl, Below.refl _ _⟩
  have H39 := Lib.hid h39
  rw [h39] at c0
  simp only [Int.cast_ofNat_Int] at c0
  have HC := Lib.hid (cloneOwn_any oA cap l w hsrc hnil (by omega))
  have HT := Lib.hid htab
  have HI := Lib.hid hI
  clear hsrc htab hnil hI h39
  subst e
  go_enter Tryf.func5, Tryf.ntmps5
  go_wp2_with (go_at_call 12; refine (HB _).mono ?_; rintro e w2 ⟨rfl, rfl⟩)
  refine HC.out.mono ?_
  rintro e w1 ⟨oB, cap1, rfl, hcap1, hsrc1, hnil1, hb1, hown1⟩
  have hz1 := hb1.size
  have T1 := Lib.hid (tabs_keep HT.out hg.1 hg.2 hb1.block)
  have S1 := Lib.hid hsrc1
  have B1 := Lib.hid hb1
  obtain ⟨g1, cc1, hval, hgB⟩ := own_shape8 hown1 (by omega)
  injection hval with hv1 hv2 hv3
  subst hv1
  subst hv3
  have CC := Lib.hid (own_at8 hown1)
  have hgl := (own_base8 hown1).2
  have HW := Lib.hid (walk_any (some ⟨g1, 0, none⟩) cap1 l w1 hsrc1 hl20 h1)
  clear hsrc1 hb1 hown1 hnil1 HC HT HB c0 hv2 hgB
  go_wp2_with fail
  refine HW.out.mono ?_
  rintro e w2 ⟨en, c, r, bc, hrw, hen, rfl, rfl⟩
  have HZ := Lib.hid (zzrune_any I (some ⟨g1, 0, none⟩) cap1 l w1 S1.out T1.out (by omega) (by omega) hcap1 (by rw [B1.out.tape]; exact HI.out) h1 H39.out)
  have HRW := Lib.hid hrw
  have hsl := fun W => run_slo W g1 0 l.length cap1 en (by omega)
  have hslA := fun W => run_sloA W g1 0 l.length cap1 en (by omega)
  have hecs := stNew_ec0 l h1 (by have := H39.out; omega) (by have := H39.out; omega)
  clear hrw HW
  have hsplit : (0 < r) ∨ (r = 0 ∧ bc = false) ∨ (r = 0 ∧ bc = true ∧ c ≠ 1) ∨ (r = 0 ∧ bc = true ∧ c = 1) := by
    rcases Nat.eq_zero_or_pos r with hr0 | hr0
    · cases bc
      · exact Or.inr (Or.inl ⟨hr0, rfl⟩)
      · by_cases hc1 : c = 1
        · exact Or.inr (Or.inr (Or.inr ⟨hr0, rfl, hc1⟩))
        · exact Or.inr (Or.inr (Or.inl ⟨hr0, rfl, hc1⟩))
    · exact Or.inl hr0
  obtain ⟨we, hwe⟩ : ∃ we, wantE bc c r = we := ⟨_, rfl⟩
  have HWE := Lib.hid hwe
  have HECS := Lib.hid hecs
  clear hecs
  rcases hsplit with hr | ⟨rfl, rfl⟩ | ⟨rfl, rfl, hc1⟩ | ⟨rfl, rfl, rfl⟩
  · have t3 : decide ((r : Int) > 0) = true := by simp; omega
    obtain rfl : we = r := by rw [← hwe]; unfold wantE; rw [if_pos hr]
    clear hwe
    go_wp2_with fail
    refine HZ.out.mono ?_
    rintro e w3 ⟨t, b3, v3, n3, hr3, ht3, rfl, hb3⟩
    have hst := stNew_ascii l (by omega) (by have := H39.out; omega)
    obtain ⟨n1, n2, n3', n4, n5⟩ := nx_ascii (stNew_good l 0) (by omega) (by rw [hst.1]; have := H39.out; omega)
    obtain ⟨k1, k2⟩ := run_law hr3 n3' (by rw [n2, hst.1]) HRW.out
    have k3 : plainA l → (runEnd t b3 n3 v3).ec = wantE bc c we := fun hP => k2 hP (by rw [nx_ec hP (stNew_good l 0) (by rw [n1]; omega)]; exact HECS.out)
    rw [HWE.out] at k3
    have B3 := Lib.hid (B1.out.trans (hb3.mono hz1))
    have hcv := rune_string (W := w3) (cap := cap1) l hen (fun i hi => (hb3.cell (p := ⟨g1, 0 + i, none⟩) hgl).trans (CC.out i hi))
    have S3 := Lib.hid ((S1.out.keep hb3.block).more hb3.size)
    have HP := Lib.hid (plainA_any (some ⟨g1, 0, none⟩) cap1 l w3 S3.out hl20 h1)
    rw [k1]
    obtain ⟨ecc, hecc⟩ : ∃ ecc, (runEnd t b3 n3 v3).ec = ecc := ⟨_, rfl⟩
    rw [hecc] at k3
    rw [hecc]
    have K3 := Lib.hid k3
    clear hr3 hb3 hst n1 n2 n3' n4 n5 k1 k2 k3 hecc CC S1 HZ T1 B1 HRW HWE
    go_wp2_with fail
    refine HP.out.mono ?_
    rintro e w4 ⟨pb, rfl, hpb, rfl⟩
    cases pb
    · clear hpb HP
      go_wp2_with fail
      go_ret
      exact ⟨rfl, B3.out⟩
    · obtain rfl := K3.out (hpb rfl)
      clear hpb HP K3
      go_wp2_with fail
      go_ret
      exact ⟨rfl, B3.out⟩
  · obtain rfl : we = 1 := by rw [← hwe]; rfl
    clear hwe
    go_wp2_with fail
    refine HZ.out.mono ?_
    rintro e w3 ⟨t, b3, v3, n3, hr3, ht3, rfl, hb3⟩
    have hst := stNew_ascii l (by omega) (by have := H39.out; omega)
    obtain ⟨n1, n2, n3', n4, n5⟩ := nx_ascii (stNew_good l 0) (by omega) (by rw [hst.1]; have := H39.out; omega)
    obtain ⟨k1, k2⟩ := run_law hr3 n3' (by rw [n2, hst.1]) HRW.out
    have k3 : plainA l → (runEnd t b3 n3 v3).ec = wantE false c 0 := fun hP => k2 hP (by rw [nx_ec hP (stNew_good l 0) (by rw [n1]; omega)]; exact HECS.out)
    rw [HWE.out] at k3
    have B3 := Lib.hid (B1.out.trans (hb3.mono hz1))
    have hcv := rune_string (W := w3) (cap := cap1) l hen (fun i hi => (hb3.cell (p := ⟨g1, 0 + i, none⟩) hgl).trans (CC.out i hi))
    have S3 := Lib.hid ((S1.out.keep hb3.block).more hb3.size)
    have HP := Lib.hid (plainA_any (some ⟨g1, 0, none⟩) cap1 l w3 S3.out hl20 h1)
    rw [k1]
    obtain ⟨ecc, hecc⟩ : ∃ ecc, (runEnd t b3 n3 v3).ec = ecc := ⟨_, rfl⟩
    rw [hecc] at k3
    rw [hecc]
    have K3 := Lib.hid k3
    clear hr3 hb3 hst n1 n2 n3' n4 n5 k1 k2 k3 hecc CC S1 HZ T1 B1 HRW HWE
    go_wp2_with fail
    refine HP.out.mono ?_
    rintro e w4 ⟨pb, rfl, hpb, rfl⟩
    cases pb
    · clear hpb HP
      go_wp2_with fail
      go_ret
      exact ⟨rfl, B3.out⟩
    · obtain rfl := K3.out (hpb rfl)
      clear hpb HP K3
      go_wp2_with fail
      go_ret
      exact ⟨rfl, B3.out⟩
  · obtain rfl : we = 1 := by rw [← hwe]; unfold wantE; rw [if_neg (by omega), if_neg (by simp), if_neg hc1]
    have t4 : ((c : Int) != 1) = true := by simp; omega
    clear hwe
    go_wp2_with fail
    refine HZ.out.mono ?_
    rintro e w3 ⟨t, b3, v3, n3, hr3, ht3, rfl, hb3⟩
    have hst := stNew_ascii l (by omega) (by have := H39.out; omega)
    obtain ⟨n1, n2, n3', n4, n5⟩ := nx_ascii (stNew_good l 0) (by omega) (by rw [hst.1]; have := H39.out; omega)
    obtain ⟨k1, k2⟩ := run_law hr3 n3' (by rw [n2, hst.1]) HRW.out
    have k3 : plainA l → (runEnd t b3 n3 v3).ec = wantE true c 0 := fun hP => k2 hP (by rw [nx_ec hP (stNew_good l 0) (by rw [n1]; omega)]; exact HECS.out)
    rw [HWE.out] at k3
    have B3 := Lib.hid (B1.out.trans (hb3.mono hz1))
    have hcv := rune_string (W := w3) (cap := cap1) l hen (fun i hi => (hb3.cell (p := ⟨g1, 0 + i, none⟩) hgl).trans (CC.out i hi))
    have S3 := Lib.hid ((S1.out.keep hb3.block).more hb3.size)
    have HP := Lib.hid (plainA_any (some ⟨g1, 0, none⟩) cap1 l w3 S3.out hl20 h1)
    rw [k1]
    obtain ⟨ecc, hecc⟩ : ∃ ecc, (runEnd t b3 n3 v3).ec = ecc := ⟨_, rfl⟩
    rw [hecc] at k3
    rw [hecc]
    have K3 := Lib.hid k3
    clear hr3 hb3 hst n1 n2 n3' n4 n5 k1 k2 k3 hecc CC S1 HZ T1 B1 HRW HWE
    go_wp2_with fail
    refine HP.out.mono ?_
    rintro e w4 ⟨pb, rfl, hpb, rfl⟩
    cases pb
    · clear hpb HP
      go_wp2_with fail
      go_ret
      exact ⟨rfl, B3.out⟩
    · obtain rfl := K3.out (hpb rfl)
      clear hpb HP K3
      go_wp2_with fail
      go_ret
      exact ⟨rfl, B3.out⟩
  · obtain rfl : we = 0 := by rw [← hwe]; rfl
    clear hwe
    go_wp2_with fail
    refine HZ.out.mono ?_
    rintro e w3 ⟨t, b3, v3, n3, hr3, ht3, rfl, hb3⟩
    have hst := stNew_ascii l (by omega) (by have := H39.out; omega)
    obtain ⟨n1, n2, n3', n4, n5⟩ := nx_ascii (stNew_good l 0) (by omega) (by rw [hst.1]; have := H39.out; omega)
    obtain ⟨k1, k2⟩ := run_law hr3 n3' (by rw [n2, hst.1]) HRW.out
    have k3 : plainA l → (runEnd t b3 n3 v3).ec = wantE true 1 0 := fun hP => k2 hP (by rw [nx_ec hP (stNew_good l 0) (by rw [n1]; omega)]; exact HECS.out)
    rw [HWE.out] at k3
    have B3 := Lib.hid (B1.out.trans (hb3.mono hz1))
    have hcv := rune_string (W := w3) (cap := cap1) l hen (fun i hi => (hb3.cell (p := ⟨g1, 0 + i, none⟩) hgl).trans (CC.out i hi))
    have S3 := Lib.hid ((S1.out.keep hb3.block).more hb3.size)
    have HP := Lib.hid (plainA_any (some ⟨g1, 0, none⟩) cap1 l w3 S3.out hl20 h1)
    rw [k1]
    obtain ⟨ecc, hecc⟩ : ∃ ecc, (runEnd t b3 n3 v3).ec = ecc := ⟨_, rfl⟩
    rw [hecc] at k3
    rw [hecc]
    have K3 := Lib.hid k3
    clear hr3 hb3 hst n1 n2 n3' n4 n5 k1 k2 k3 hecc CC S1 HZ T1 B1 HRW HWE
    go_wp2_with fail
    refine HP.out.mono ?_
    rintro e w4 ⟨pb, rfl, hpb, rfl⟩
    cases pb
    · clear hpb HP
      go_wp2_with fail
      go_ret
      exact ⟨rfl, B3.out⟩
    · obtain rfl := K3.out (hpb rfl)
      clear hpb HP K3
      go_wp2_with fail
      go_ret
      exact ⟨rfl, B3.out⟩
end Go.Proofs.YtkhekeepadeldaaFmt
