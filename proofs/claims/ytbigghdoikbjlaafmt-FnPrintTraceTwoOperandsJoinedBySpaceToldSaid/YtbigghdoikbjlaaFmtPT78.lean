/-
  Compiler.printTrace into a bytes.Buffer. Conditions: fmt is told by the kit's own function.
-/
import Derived.Test.YtbigghdoikbjlaaFmtFp78
import Derived.Test.YtbigghdoikbjlaaFmtDot78
import Derived.Deep.DeepCutAuto
import Derived.Deep.RegionHeld3
namespace Go.Proofs.YtbigghdoikbjlaaFmt
open Go.RowKit
open Go.Extern.Stop Go.Stop Go.Extern
set_option maxRecDepth 100000
set_option linter.unusedVariables false

def Kep (B b : Nat) (w w' : World) : Prop := Below B w w' ∧ Lib.OthersKept 5 (some b) w w'
theorem Kep.trans {B b : Nat} {a c d : World} (h : Kep B b a c) (k : Kep B b c d) : Kep B b a d := ⟨h.1.trans k.1, h.2.trans k.2⟩
theorem Kep.refl (B b : Nat) (w : World) : Kep B b w w := ⟨Below.refl _ _, Lib.OthersKept.refl _ _ _⟩
theorem Kep.drew {B b : Nat} {a c : World} (h : Kep B b a c) : Kep B b a c.drew := ⟨h.1.drew, h.2⟩
theorem Kep.alloc {B b : Nat} {a c : World} (h : Kep B b a c) (hB : B ≤ a.heap.size) (o : Obj) : Kep B b a (c.alloc o) := ⟨h.1.alloc (Nat.le_trans hB h.1.size) o, h.2.alloc o⟩
theorem Kep.blk {B b c t : Nat} {w w' : World} {CC : Array Value} {fz : Nat × Nat} (h : Kep B b w w') (hc : w.heap[c]? = some (.cells CC t fz)) (hn : c ≠ b) (ht : t ≠ 5) : w'.heap[c]? = some (.cells CC t fz) :=
  h.2 c _ hc (by simpa using hn) (by rintro c' fz' h'; cases h'; exact ht rfl)
theorem blk_cell {c t i : Nat} {w : World} {CC : Array Value} {fz : Nat × Nat} {v : Value} (hc : w.heap[c]? = some (.cells CC t fz)) (hv : CC[i]? = some v) : w.cell? ⟨c, i, none⟩ = some v := by
  simp [World.cell?, hc, hv]
theorem new_cell (w : World) (v : Value) (t : Nat) : (w.alloc (.cells #[v] t)).cell? ⟨w.heap.size, 0, none⟩ = some v := blk_cell (heap_alloc_new w _) rfl
set_option maxHeartbeats 4000000 in
theorem trace_any (I : Interp) (B b c g n ind : Nat) (s : List UInt8) (save : Array Value) (CC GC : Array Value) (fz fz' : Nat × Nat) (w : World) (hF : I.told.answers w.tape) (hb : IsB B b [] w) (hB : B ≤ w.heap.size)
    (hcb : w.heap[c]? = some (.cells CC 46 fz)) (h14 : CC[14]? = some (.iface 33 (.pointer (some ⟨b, 0, none⟩)))) (h15 : CC[15]? = some (.int .i64 (ind : Int)))
    (hgb : w.heap[g]? = some (.cells GC 20 fz')) (hg : g ≠ b) (hc : c ≠ b) (hs : s.length < 2 ^ 40) (hind : ind ≤ 65536)
    (hln : ∀ W : World, W.heap[g]? = some (.cells GC 20 fz') → W.tape = w.tape → lnArgs g s n save W) :
    Calls Tryf.prog 10 #[.pointer (some ⟨c, 0, none⟩), .slice (some ⟨g, 0, none⟩) n n] w fun e w' => e = .returned (.tuple #[]) ∧ IsB B b (dotL ind ++ s) w' ∧ Below B w w' := by
  have c14 := blk_cell hcb h14
  have c15 := blk_cell hcb h15
  have HI := Lib.hid hb
  have HCB := Lib.hid hcb
  have HGB := Lib.hid hgb
  have HLN := Lib.hid hln
  have HF := Lib.hid hF
  clear hb hcb hgb hln hF
  go_enter Tryf.func10, Tryf.ntmps10
  go_wp2_with fail
  clear c14 c15
  go_loopw [4] (fun v4 wr => ∃ (k R : Nat), 2 * ind = 62 * k + R ∧ v4 = .int .i64 (R : Int) ∧ IsB B b (dotL (31 * k)) wr ∧ Kep B b w wr) (fun v4 _ => (intOf v4).toNat)
  case atStart => exact ⟨0, 2 * ind, by omega, by simp, HI.out, ⟨Below.refl _ _, Lib.OthersKept.refl _ _ _⟩⟩
  case round =>
    obtain ⟨k, R, hk, rfl, hb, hkp⟩ := hrel
    have hR0 : R ≤ 131072 := by omega
    have HKR := Lib.hid hk
    clear hk
    have c14 := blk_cell (hkp.blk HCB.out hc (by decide)) h14
    have HB := Lib.hid hb
    have HK := Lib.hid hkp
    have hBr : B ≤ wr.heap.size := Nat.le_trans hB hkp.1.size
    have hFr := hkp.1.tape
    have HFR := Lib.hid hFr
    clear hb hkp hFr HI
    by_cases hlt : 62 < R
    · go_wp2_with fail
      rw [dots_all]
      refine (fprint1 I B b wr.heap.size (dotL (31 * k)) (dotL 31) _ ?_ ?_ ?_ ?_ ?_ ?_).mono ?_
      · have h := HF.out
        rw [← HFR.out] at h
        exact h
      · exact HB.out.keepAll ((Below.refl _ _).alloc (Nat.le_refl _) _)
      · exact Nat.le_trans hBr ((Below.refl wr.heap.size wr).alloc (Nat.le_refl _) _).size
      · rw [dotL_len]; decide
      · have := HKR.out
        rw [dotL_len]; omega
      · exact new_cell _ _ _
      rintro e w2 ⟨rfl, h1, h2, h3⟩
      have H2 := Lib.hid (And.intro h1 (HK.out.trans (Kep.trans (Kep.alloc (Kep.refl B b wr) hBr _) ⟨h2, h3⟩)))
      clear h1 h2 h3 HK HB
      go_wp2_with fail
      go_roundw
      case rel =>
        have hk := HKR.out
        refine ⟨k + 1, R - 62, by omega, ?_, ?_, H2.out.2⟩
        · exact congrArg (Value.int IntKind.i64) (by omega)
        · rw [show 31 * (k + 1) = 31 * k + 31 by omega, dotL_add]
          exact H2.out.1
      case measure => simp [intOf]; omega
    · have r0 : (0 : Int) ≤ (R : Int) := by omega
      have r1 : (R : Int) ≤ 62 := by omega
      go_upto_region 4 with fail
      go_cut [4] (fun v4 wx => IsB B b (dotL ind) wx ∧ Kep B b w wx)
      case first =>
        have HC : Hid ((⟨#[46, 32, 46, 32, 46, 32, 46, 32, 46, 32, 46, 32, 46, 32, 46, 32, 46, 32, 46, 32, 46, 32, 46, 32, 46, 32, 46, 32, 46, 32, 46, 32, 46, 32, 46, 32, 46, 32, 46, 32, 46, 32, 46, 32, 46, 32, 46, 32, 46, 32, 46, 32, 46, 32, 46, 32, 46, 32, 46, 32, 46, 32]⟩ : ByteArray).extract 0 R = ⟨(dotL (R / 2)).toArray⟩) := by
          have hk := HKR.out
          have h2 : R = 2 * (R / 2) := by omega
          have h := dots_cut (R / 2) (by omega)
          rw [← h2] at h
          exact Lib.hid h
        go_region_held3 (fun w' => w'.cell? ⟨c, 14, none⟩ = some (.iface 33 (.pointer (some ⟨b, 0, none⟩)))) (first | exact c14 | assumption | go_keep) ((go_at_call 12; rw [HC.out]; refine (fprint1 I B b wr.heap.size (dotL (31 * k)) (dotL (R / 2)) _ (by have h := HF.out; rw [← HFR.out] at h; exact h) (HB.out.keepAll ((Below.refl wr.heap.size wr).alloc (Nat.le_refl _) _).drew) (Nat.le_trans hBr ((Below.refl wr.heap.size wr).alloc (Nat.le_refl _) _).size) (by rw [dotL_len]; omega) (by have := HKR.out; rw [dotL_len]; omega) (new_cell _ _ _)).mono ?_; rintro e w2 ⟨rfl, h1, h2, h3⟩; have H2 := Lib.hid (And.intro h1 (HK.out.trans (Kep.trans (Kep.alloc (Kep.refl B b wr) hBr _).drew ⟨h2, h3⟩))); clear h1 h2 h3; have g14 := blk_cell (H2.out.2.blk HCB.out hc (by decide)) h14))
        all_goals
          go_wp2_with fail
          go_meet
          have hk := HKR.out
          have h2 : ind = 31 * k + R / 2 := by omega
          refine ⟨?_, H2.out.2⟩
          rw [h2, dotL_add]
          exact H2.out.1
      case rest =>
        obtain ⟨hb, hkp⟩ := hcut
        clear HB HK c14
        have c14 := blk_cell (hkp.blk HCB.out hc (by decide)) h14
        have HP := Lib.hid (fprintln B b g n (dotL ind) s save wc (HLN.out wc (hkp.blk HGB.out hg (by decide)) hkp.1.tape) hb (Nat.le_trans hB hkp.1.size) hs (by rw [dotL_len]; omega))
        have HK := Lib.hid hkp
        clear hb hkp
        go_wp2_with fail
        refine HP.out.mono ?_
        rintro e w2 ⟨rfl, h1, h2, h3⟩
        have H2 := Lib.hid (And.intro h1 (HK.out.1.trans h2))
        clear h1 h2 h3 HP HK
        go_wp2_with fail
        go_end0
        exact ⟨rfl, H2.out.1, H2.out.2⟩
end Go.Proofs.YtbigghdoikbjlaaFmt
