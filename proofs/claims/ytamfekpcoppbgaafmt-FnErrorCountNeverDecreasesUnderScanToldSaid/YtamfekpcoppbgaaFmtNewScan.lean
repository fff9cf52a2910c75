/-
  A scanner as the package makes it: AddFile at base -1 in a fresh set, then NewScanner with a nil handler. Conditions: at most 2^20 bytes.
-/
import Derived.Test.YtamfekpcoppbgaaFmtNext
namespace Go.Proofs.YtamfekpcoppbgaaFmt
open Go.RowKit
set_option maxRecDepth 100000
set_option linter.unusedVariables false

theorem file_info : (Tryf.prog.info? 26).map (fun i => (i.zero, i.size, i.bytes)) = some (some (.pointer none), 1, 8) := by kernel_rfl

def AddFilePost (gSet : Nat) (nm : ByteArray) (n : Nat) (w : World) (e : Ending) (w' : World) : Prop :=
  ∃ gF lv, e = .returned (.pointer (some ⟨gF, 0, none⟩)) ∧ w.heap.size ≤ gF ∧ Blk w' gF 32 (flCells ⟨.pointer (some ⟨gSet, 0, none⟩), nm, 1⟩ n lv) ∧ w'.ownsRow w.heap.size 3 1 lv 1 (lnCells [0]) ∧
    w'.os = w.os ∧ w'.tape = w.tape ∧ w'.output = w.output ∧ w.heap.size ≤ w'.heap.size ∧ ∀ k, k < w.heap.size → k ≠ gSet → w'.heap[k]? = w.heap[k]?

set_option maxHeartbeats 2000000 in
theorem addFile_any (gSet : Nat) (nm : ByteArray) (n : Nat) (w : World) (hb : Blk w gSet 78 #[.int .i64 1, .slice none 0 0, .pointer none]) (hn : n ≤ 1048576) :
    Calls Tryf.prog 28 #[.pointer (some ⟨gSet, 0, none⟩), .string nm, .int .i64 (-1), .int .i64 n] w (AddFilePost gSet nm n w) := by
  have c0 : w.cell? ⟨gSet, 0, none⟩ = some (.int .i64 1) := by rw [hb.cell]; rfl
  have c1 : w.cell? ⟨gSet, 1, none⟩ = some (.slice none 0 0) := by rw [hb.cell]; rfl
  have c2 : w.cell? ⟨gSet, 2, none⟩ = some (.pointer none) := by rw [hb.cell]; rfl
  have f0 := hb.free 0
  have f1 := hb.free 1
  have f2 := hb.free 2
  have hlt := hb.lt
  have hne : gSet ≠ w.heap.size := by omega
  have hne1 : gSet ≠ w.heap.size + 1 := by omega
  obtain ⟨i0, hi, hz0, hz1, hz2⟩ := info_parts file_info
  have HB := Lib.hid hb
  clear hb
  go_enter Tryf.func28, Tryf.ntmps28
  go_wp2_with (at_builtin; refine Hid.out ?_)
  refine Lib.hid ?_
  have hset0 := HB.out.put 0 (.int .i64 (1 + ((n : Int) + 1)))
  have hW0 : (w.setCell ⟨gSet, 0, none⟩ (.int .i64 (1 + ((n : Int) + 1)))).heap.size = w.heap.size := by simp [World.setCell]
  have hfr0 : ∀ k, k ≠ gSet → (w.setCell ⟨gSet, 0, none⟩ (.int .i64 (1 + ((n : Int) + 1)))).heap[k]? = w.heap[k]? := fun k hk => Below.heap_setCell _ _ _ _ hk
  have hos0 : (w.setCell ⟨gSet, 0, none⟩ (.int .i64 (1 + ((n : Int) + 1)))).os = w.os ∧ (w.setCell ⟨gSet, 0, none⟩ (.int .i64 (1 + ((n : Int) + 1)))).tape = w.tape ∧ (w.setCell ⟨gSet, 0, none⟩ (.int .i64 (1 + ((n : Int) + 1)))).output = w.output := ⟨rfl, rfl, rfl⟩
  generalize w.setCell ⟨gSet, 0, none⟩ (.int .i64 (1 + ((n : Int) + 1))) = w0 at hset0 hW0 hfr0 hos0 ⊢
  have hg1 := Blk.new w0 3 #[.int .i64 0]
  have hs1 : (w0.alloc (.cells #[.int .i64 0] 3)).heap.size = w.heap.size + 1 := by simp [hW0]
  have hset1 := hset0.alloc (.cells #[.int .i64 0] 3)
  have hfr1 : ∀ k, k < w.heap.size → k ≠ gSet → (w0.alloc (.cells #[.int .i64 0] 3)).heap[k]? = w.heap[k]? := fun k hk hk2 => (Below.heap_alloc _ _ _ (by omega)).trans (hfr0 k hk2)
  have hos1 : (w0.alloc (.cells #[.int .i64 0] 3)).os = w.os ∧ (w0.alloc (.cells #[.int .i64 0] 3)).tape = w.tape ∧ (w0.alloc (.cells #[.int .i64 0] 3)).output = w.output := hos0
  rw [hW0] at hg1
  generalize w0.alloc (.cells #[.int .i64 0] 3) = w1 at hg1 hs1 hset1 hfr1 hos1 ⊢
  have hgF := Blk.new w1 32 #[.pointer (some ⟨gSet, 0, none⟩), .string nm, .int .i64 1, .int .i64 n, .slice (some ⟨w.heap.size, 0, none⟩) 1 1]
  have hg2 := hg1.alloc (.cells #[.pointer (some ⟨gSet, 0, none⟩), .string nm, .int .i64 1, .int .i64 n, .slice (some ⟨w.heap.size, 0, none⟩) 1 1] 32)
  have hset2 := hset1.alloc (.cells #[.pointer (some ⟨gSet, 0, none⟩), .string nm, .int .i64 1, .int .i64 n, .slice (some ⟨w.heap.size, 0, none⟩) 1 1] 32)
  have hs2 : (w1.alloc (.cells #[.pointer (some ⟨gSet, 0, none⟩), .string nm, .int .i64 1, .int .i64 n, .slice (some ⟨w.heap.size, 0, none⟩) 1 1] 32)).heap.size = w.heap.size + 2 := by simp [hs1]
  have hfr2 : ∀ k, k < w.heap.size → k ≠ gSet → (w1.alloc (.cells #[.pointer (some ⟨gSet, 0, none⟩), .string nm, .int .i64 1, .int .i64 n, .slice (some ⟨w.heap.size, 0, none⟩) 1 1] 32)).heap[k]? = w.heap[k]? := fun k hk hk2 => (Below.heap_alloc _ _ _ (by omega)).trans (hfr1 k hk hk2)
  have hos2 : (w1.alloc (.cells #[.pointer (some ⟨gSet, 0, none⟩), .string nm, .int .i64 1, .int .i64 n, .slice (some ⟨w.heap.size, 0, none⟩) 1 1] 32)).os = w.os ∧ (w1.alloc (.cells #[.pointer (some ⟨gSet, 0, none⟩), .string nm, .int .i64 1, .int .i64 n, .slice (some ⟨w.heap.size, 0, none⟩) 1 1] 32)).tape = w.tape ∧ (w1.alloc (.cells #[.pointer (some ⟨gSet, 0, none⟩), .string nm, .int .i64 1, .int .i64 n, .slice (some ⟨w.heap.size, 0, none⟩) 1 1] 32)).output = w.output := hos1
  rw [hs1] at hgF
  generalize w1.alloc (.cells #[.pointer (some ⟨gSet, 0, none⟩), .string nm, .int .i64 1, .int .i64 n, .slice (some ⟨w.heap.size, 0, none⟩) 1 1] 32) = w2 at hgF hg2 hset2 hs2 hfr2 hos2 ⊢
  have hnew := Blk.new w2 26 #[.pointer (some ⟨w.heap.size + 1, 0, none⟩)]
  have hgF3 := hgF.alloc (.cells #[.pointer (some ⟨w.heap.size + 1, 0, none⟩)] 26)
  have hg3 := hg2.alloc (.cells #[.pointer (some ⟨w.heap.size + 1, 0, none⟩)] 26)
  have hset3 := hset2.alloc (.cells #[.pointer (some ⟨w.heap.size + 1, 0, none⟩)] 26)
  have hs3 : (w2.alloc (.cells #[.pointer (some ⟨w.heap.size + 1, 0, none⟩)] 26)).heap.size = w.heap.size + 3 := by simp [hs2]
  have hfr3 : ∀ k, k < w.heap.size → k ≠ gSet → (w2.alloc (.cells #[.pointer (some ⟨w.heap.size + 1, 0, none⟩)] 26)).heap[k]? = w.heap[k]? := fun k hk hk2 => (Below.heap_alloc _ _ _ (by omega)).trans (hfr2 k hk hk2)
  have hos3 : (w2.alloc (.cells #[.pointer (some ⟨w.heap.size + 1, 0, none⟩)] 26)).os = w.os ∧ (w2.alloc (.cells #[.pointer (some ⟨w.heap.size + 1, 0, none⟩)] 26)).tape = w.tape ∧ (w2.alloc (.cells #[.pointer (some ⟨w.heap.size + 1, 0, none⟩)] 26)).output = w.output := hos2
  rw [hs2] at hnew
  generalize w2.alloc (.cells #[.pointer (some ⟨w.heap.size + 1, 0, none⟩)] 26) = w3 at hnew hgF3 hg3 hset3 hs3 hfr3 hos3 ⊢
  have a1 : ∀ j u, [Value.pointer (some ⟨w.heap.size + 1, 0, none⟩)][j]? = some u → w3.cell? ((⟨w.heap.size + 2, 0, none⟩ : Addr).add j) = some u := by
    intro j u hj
    have hj0 : j = 0 := by
      rcases j with _ | j
      · rfl
      · simp at hj
    subst hj0
    have hu : Value.pointer (some ⟨w.heap.size + 1, 0, none⟩) = u := by simpa using hj
    rw [← hu, show (⟨w.heap.size + 2, 0, none⟩ : Addr).add 0 = ⟨w.heap.size + 2, 0, none⟩ from rfl, hnew.cell]
    rfl
  have a2 : ∀ u ∈ [Value.pointer (some ⟨w.heap.size + 1, 0, none⟩)], u.oneCell' = true := by
    intro u hu
    have hu2 : u = Value.pointer (some ⟨w.heap.size + 1, 0, none⟩) := by simpa using hu
    rw [hu2]
    rfl
  refine wpList_append_own _ rfl (.tmp 49) (.tmp 51) 76 rfl w.heap.size 26 i0 (.pointer none) 1 8 Tryf.underlying76 hi hz0 hz1 hz2 rfl (by decide) (.slice none 0 0) 0 [] rfl ⟨by simp, Or.inl ⟨rfl, rfl⟩⟩ ⟨w.heap.size + 2, 0, none⟩ 1 1 [.pointer (some ⟨w.heap.size + 1, 0, none⟩)] rfl rfl a1 a2 (by simp only [maxLen]; omega) (by omega) (by omega) ?_
  intro v' w4 hown1 hgrow _
  obtain ⟨g2, cap2, hv2⟩ : ∃ g2 cap2, v' = .slice (some ⟨g2, 0, none⟩) 1 cap2 := by
    rcases hown1.2 with ⟨_, h0⟩ | ⟨g2, cap2, cur, hv, _⟩
    · omega
    · exact ⟨g2, cap2, hv⟩
  have hgF4 : Blk w4 (w.heap.size + 1) 32 #[.pointer (some ⟨gSet, 0, none⟩), .string nm, .int .i64 1, .int .i64 n, .slice (some ⟨w.heap.size, 0, none⟩) 1 1] := hgF3.same (hgrow.block _ (by omega) (by simp [Value.ownBlock]))
  have hg4 : Blk w4 w.heap.size 3 #[.int .i64 0] := hg3.same (hgrow.block _ (by omega) (by simp [Value.ownBlock]))
  have hset4 := hset3.same (hgrow.block gSet (by omega) (by simp [Value.ownBlock]))
  have d1 : w4.cell? ⟨gSet, 1, none⟩ = some (.slice none 0 0) := by rw [hset4.cell]; rfl
  have d2 : w4.cell? ⟨gSet, 2, none⟩ = some (.pointer none) := by rw [hset4.cell]; rfl
  have e1 := hset4.free 1
  have e2 := hset4.free 2
  have hsz := hgrow.size
  have HG := Lib.hid hgrow
  have K1 := Lib.hid hgF4
  have K2 := Lib.hid hg4
  have K3 := Lib.hid hfr3
  have K4 := Lib.hid hos3
  have K5 := Lib.hid hs3
  rw [hv2]
  clear hv2 hgrow hgF4 hg4 hset4 hfr3 hos3 hs3 hset3 hg3 hgF3 hnew a1 a2 hown1 hfr2 hos2 hs2 hset2 hg2 hgF hfr1 hos1 hs1 hset1 hg1 hfr0 hos0 hW0 hset0 c0 c1 c2 f0 f1 f2
  go_wp2
  go_ret
  have hne2 : w.heap.size + 1 ≠ gSet := by omega
  have hne3 : w.heap.size ≠ gSet := by omega
  refine ⟨w.heap.size + 1, .slice (some ⟨w.heap.size, 0, none⟩) 1 1, rfl, by omega, (K1.out.other (p := ⟨gSet, 1, none⟩) hne2 _).other (p := ⟨gSet, 2, none⟩) hne2 _, ?_, ?_, ?_, ?_, ?_, ?_⟩
  · have hk : Blk _ w.heap.size 3 #[.int .i64 0] := (K2.out.other (p := ⟨gSet, 1, none⟩) hne3 (.slice (some ⟨g2, 0, none⟩) 1 cap2)).other (p := ⟨gSet, 2, none⟩) hne3 (.pointer (some ⟨w.heap.size + 1, 0, none⟩))
    exact ⟨by simp [lnCells], Or.inr ⟨w.heap.size, 1, #[.int .i64 0], rfl, Nat.le_refl _, hk, Nat.le_refl _, by simp [maxLen], by simp, by simp [lnCells]⟩⟩
  · exact HG.out.os.trans K4.out.1
  · exact HG.out.tape.trans K4.out.2.1
  · exact HG.out.output.trans K4.out.2.2
  · have := K5.out
    simp only [World.setCell, Array.size_modify]
    omega
  · intro k hk hk2
    rw [Below.heap_setCell _ _ _ _ hk2, Below.heap_setCell _ _ _ _ hk2, HG.out.block k (by have := K5.out; omega) (by simp [Value.ownBlock]), K3.out k hk hk2]

def NewPost (B gF : Nat) (oA : Option Addr) (cap : Nat) (fx : FileFix) (src : List UInt8) (m : Int) (w : World) (e : Ending) (w' : World) : Prop :=
  ∃ gS, e = .returned (.pointer (some ⟨gS, 0, none⟩)) ∧ SC ⟨B, gS, gF, oA, cap, fx⟩ src (stNew src m) w' ∧ Below B w w'

set_option maxHeartbeats 2000000 in
theorem newScanner_any (B gF : Nat) (oA : Option Addr) (cap : Nat) (fx : FileFix) (src : List UInt8) (lv : Value) (m : Int) (w : World) (hm : -9223372036854775808 ≤ m ∧ m ≤ 9223372036854775807)
    (hf : Blk w gF 32 (flCells fx src.length lv)) (hown : w.ownsRow B 3 1 lv 1 (lnCells [0])) (hsrc : SrcAt w B oA src)
    (htab : Lib.Utf8Tabs 4 5 w) (hg : 4 < B ∧ 5 < B) (hBF : B ≤ gF) (hn : src.length ≤ 1048576) (hcap : src.length ≤ cap) :
    Calls Tryf.prog 29 #[.pointer (some ⟨gF, 0, none⟩), .slice oA src.length cap, .nilFunc, .int .i64 m] w (NewPost B gF oA cap fx src m w) := by
  have hltF := hf.lt
  have c3 : w.cell? ⟨gF, 3, none⟩ = some (.int .i64 src.length) := by rw [hf.cell]; rfl
  have hne : gF ≠ w.heap.size := by omega
  have t0 : ((src.length : Int) != (src.length : Int)) = false := by simp
  have hstart : SC ⟨B, w.heap.size, gF, oA, cap, fx⟩ src (st0 m) (w.alloc (.cells (scCells gF oA src.length cap (st0 m)) 58)) := by
    have hb : Below w.heap.size w (w.alloc (.cells (scCells gF oA src.length cap (st0 m)) 58)) := (Below.refl _ _).alloc (Nat.le_refl _) _
    have hk : ∀ k, k < B → (w.alloc (.cells (scCells gF oA src.length cap (st0 m)) 58)).heap[k]? = w.heap[k]? := fun k hk => hb.block k (by omega)
    exact ⟨Blk.new _ _ _, ⟨lv, hf.alloc _, own_keep hown (fun k hk' => hb.block k (by
      rcases hown.2 with ⟨rfl, _⟩ | ⟨g, cap', cur, rfl, _, hh, _⟩
      · simp [Value.ownBlock] at hk'
      · have : k = g := by simpa [Value.ownBlock] using hk'
        subst this
        exact Blk.lt (t := 3) hh))⟩, hsrc.keep hk, tabs_keep htab hg.1 hg.2 hk, hg, by show B ≤ w.heap.size; omega, hBF, hn, hcap, Nat.zero_le _, Nat.zero_le _, Nat.zero_le _, ⟨by simp [st0], by simp [st0, lastOf], by simp [st0, lastOf]⟩, by simp [st0]⟩
  have HS := Lib.hid hstart
  have BS := Lib.hid ((Below.refl w.heap.size w).alloc (Nat.le_refl _) (.cells (scCells gF oA src.length cap (st0 m)) 58))
  clear hstart hf hown hsrc htab
  go_enter Tryf.func29, Tryf.ntmps29
  go_wp2_with fail
  refine (next_any ⟨B, w.heap.size, gF, oA, cap, fx⟩ src (st0 m) _ HS.out (by simp [st0])).mono ?_
  rintro e w1 ⟨rfl, hs1, hb1⟩
  have d2 : w1.cell? ⟨w.heap.size, 2, none⟩ = some (.int .i32 (nx src (st0 m)).ch) := by rw [hs1.blkS.cell]; rfl
  have H1 := Lib.hid hs1
  have B1 := Lib.hid hb1
  have hec1 : (nx src (st0 m)).ec ≤ 1 := by
    unfold nx
    split
    · show 0 + (if badc src (st0 m).rd = true then 1 else 0) ≤ 1
      split <;> omega
    · show (0 : Nat) ≤ 1
      omega
  have hB2 : Below B w w1 := (BS.out.mono (by omega)).trans B1.out
  have B2 := Lib.hid hB2
  clear hs1 hb1 hB2
  by_cases hbom : (nx src (st0 m)).ch = 65279
  · have t1 : ((nx src (st0 m)).ch == 65279) = true := by simpa using hbom
    have HBM := Lib.hid hbom
    clear hbom
    go_wp2_with fail
    refine (next_any ⟨B, w.heap.size, gF, oA, cap, fx⟩ src (nx src (st0 m)) _ H1.out (by omega)).mono ?_
    rintro e w2 ⟨rfl, hs2, hb2⟩
    have H2 := Lib.hid hs2
    have B3 := Lib.hid hb2
    clear hs2 hb2
    go_wp2
    go_ret
    refine ⟨w.heap.size, rfl, ?_, B2.out.trans B3.out⟩
    have e : stNew src m = nx src (nx src (st0 m)) := by unfold stNew; rw [if_pos HBM.out]
    rw [e]
    exact H2.out
  · have t1 : ((nx src (st0 m)).ch == 65279) = false := by simpa using hbom
    have HBM := Lib.hid hbom
    clear hbom
    go_wp2_with fail
    go_ret
    refine ⟨w.heap.size, rfl, ?_, B2.out⟩
    have e : stNew src m = nx src (st0 m) := by unfold stNew; rw [if_neg HBM.out]
    rw [e]
    exact H1.out

end Go.Proofs.YtamfekpcoppbgaaFmt
