/-
  The scanner in memory, and what its own error and AddLine do to it. Conditions: the error handler is nil, the source has at most 2^20 bytes.
-/
import Derived.Test.YtamfekpcoppbgaaFmtKit
import Derived.Test.YtamfekpcoppbgaaFmtShelf
import Derived.Test.YtamfekpcoppbgaaFmtScanM
import Derived.Lib.Hide
import Derived.StillTailTactics
import Derived.BigQuiet
import Derived.Deep.QuietTactic
import Derived.OwnWalk
import Derived.WalkSpells
import Derived.WalkLawsBesides
namespace Go.Proofs.YtamfekpcoppbgaaFmt
open Go.RowKit
set_option maxRecDepth 100000
set_option linter.unusedVariables false

structure FileFix where
  setV : Value
  nm : ByteArray
  base : Nat

def scCells (gF : Nat) (oA : Option Addr) (n cap : Nat) (s : St) : Array Value :=
  #[.pointer (some ⟨gF, 0, none⟩), .slice oA n cap, .int .i32 s.ch, .int .i64 s.off, .int .i64 s.rd, .int .i64 s.lo, .bool s.semi, .nilFunc, .int .i64 s.ec, .int .i64 s.mode]
def flCells (fx : FileFix) (n : Nat) (lv : Value) : Array Value := #[fx.setV, .string fx.nm, .int .i64 fx.base, .int .i64 n, lv]
def lnCells (lines : List Nat) : List Value := lines.map fun (k : Nat) => Value.int .i64 (k : Int)

/-- a block known whole, nothing in it frozen -/
def Blk (w : World) (g : Nat) (t : TypeId) (cs : Array Value) : Prop := w.heap[g]? = some (.cells cs t (0, 0))
theorem Blk.cell {w : World} {g : Nat} {t : TypeId} {cs : Array Value} (h : Blk w g t cs) (i : Nat) : w.cell? ⟨g, i, none⟩ = cs[i]? := by
  unfold Blk at h
  simp [World.cell?, h]
theorem Blk.free {w : World} {g : Nat} {t : TypeId} {cs : Array Value} (h : Blk w g t cs) (i : Nat) : w.frozen? ⟨g, i, none⟩ = false := by
  unfold Blk at h
  simp [World.frozen?, h]
theorem Blk.lt {w : World} {g : Nat} {t : TypeId} {cs : Array Value} (h : Blk w g t cs) : g < w.heap.size := by
  rcases Nat.lt_or_ge g w.heap.size with hlt | hge
  · exact hlt
  · unfold Blk at h
    rw [Array.getElem?_eq_none hge] at h
    cases h
theorem Blk.put {w : World} {g : Nat} {t : TypeId} {cs : Array Value} (h : Blk w g t cs) (i : Nat) (u : Value) : Blk (w.setCell ⟨g, i, none⟩ u) g t (cs.setIfInBounds i u) := by
  unfold Blk at h ⊢
  simp [World.setCell, Array.getElem?_modify, h]
theorem Blk.other {w : World} {g : Nat} {t : TypeId} {cs : Array Value} (h : Blk w g t cs) {p : Addr} (hp : g ≠ p.block) (u : Value) : Blk (w.setCell p u) g t cs := by
  unfold Blk at h ⊢
  rw [Below.heap_setCell w p u g hp]
  exact h
theorem Blk.alloc {w : World} {g : Nat} {t : TypeId} {cs : Array Value} (h : Blk w g t cs) (o : Obj) : Blk (w.alloc o) g t cs := by
  have hl := h.lt
  unfold Blk at h ⊢
  rw [Below.heap_alloc w o g hl]
  exact h
theorem Blk.new (w : World) (t : TypeId) (cs : Array Value) : Blk (w.alloc (.cells cs t)) w.heap.size t cs := (MapKept.heap_alloc w _).1
theorem Blk.same {w w' : World} {g : Nat} {t : TypeId} {cs : Array Value} (h : Blk w g t cs) (hb : w'.heap[g]? = w.heap[g]?) : Blk w' g t cs := hb.trans h
theorem Blk.tags {w : World} {g g' : Nat} {t t' : TypeId} {cs cs' : Array Value} (h : Blk w g t cs) (h' : Blk w g' t' cs') (hne : t ≠ t') : g ≠ g' := by
  rintro rfl
  unfold Blk at h h'
  rw [h] at h'
  injection h' with h'
  injection h' with _ ht
  exact hne ht

/-- only block g, and the row of one slice value, may have turned -/
structure Only (g : Nat) (v : Value) (w w' : World) : Prop where
  os : w'.os = w.os
  tape : w'.tape = w.tape
  output : w'.output = w.output
  size : w.heap.size ≤ w'.heap.size
  block : ∀ k, k < w.heap.size → k ≠ g → some k ≠ v.ownBlock → w'.heap[k]? = w.heap[k]?

def lastOf (lines : List Nat) : Nat := lines.getD (lines.length - 1) 0
structure LinesOk (n : Nat) (lines : List Nat) : Prop where
  some : lines ≠ []
  count : lines.length ≤ lastOf lines + 1
  last : lastOf lines ≤ n

theorem lines_len {n : Nat} {lines : List Nat} (h : LinesOk n lines) : 0 < lines.length ∧ lines.length ≤ n + 1 := by
  have h1 := h.count
  have h2 := h.last
  refine ⟨?_, by omega⟩
  rcases Nat.eq_zero_or_pos lines.length with h0 | h0
  · exact absurd (List.eq_nil_of_length_eq_zero h0) h.some
  · exact h0
theorem lastOf_snoc (l : List Nat) (o : Nat) : lastOf (l ++ [o]) = o := by
  unfold lastOf
  simp [List.getD]
theorem addLine_ok {n o : Nat} {lines : List Nat} (h : LinesOk n lines) : LinesOk n (addLine n o lines) := by
  unfold addLine
  by_cases hc : lastLt lines o = true ∧ o < n
  · rw [if_pos hc]
    have hl : lastOf lines < o := by
      have := hc.1
      unfold lastLt at this
      rcases (of_decide_eq_true this) with h1 | h1
      · exact absurd h1 h.some
      · exact h1
    have := h.count
    exact ⟨by simp, by rw [lastOf_snoc]; simp; omega, by rw [lastOf_snoc]; omega⟩
  · rw [if_neg hc]
    exact h

theorem own_tag {w : World} {base : Nat} {e : TypeId} {size n : Nat} {v : Value} {xs : List Value} {g : Nat} {t : TypeId} {cs : Array Value} (h : w.ownsRow base e size v n xs) (hb : Blk w g t cs) (hne : t ≠ e) : some g ≠ v.ownBlock := by
  rcases h.2 with ⟨rfl, _⟩ | ⟨g', cap, cur, rfl, _, hh, _⟩
  · simp [Value.ownBlock]
  · intro he
    have : g = g' := by simpa [Value.ownBlock] using he
    subst this
    exact Blk.tags hb (t' := e) hh hne rfl

theorem own_keep0 {w w' : World} {base : Nat} {e : TypeId} {size n : Nat} {v : Value} {xs : List Value} (h : w.ownsRow base e size v n xs) (hk : ∀ k, some k = v.ownBlock → w'.heap[k]? = w.heap[k]?) : w'.ownsRow base e size v n xs := by
  obtain ⟨h1, h2⟩ := h
  refine ⟨h1, ?_⟩
  rcases h2 with h2 | ⟨g, cap, cur, hv, hg, hh, r⟩
  · exact Or.inl h2
  · exact Or.inr ⟨g, cap, cur, hv, hg, (hk g (by rw [hv]; rfl)).trans hh, r⟩

set_option maxHeartbeats 1000000 in
theorem error_any (gS : Nat) (cs : Array Value) (ec : Nat) (w : World) (o : Int) (msg : ByteArray) (hb : Blk w gS 58 cs) (h7 : cs[7]? = some .nilFunc) (h8 : cs[8]? = some (.int .i64 ec)) (hec : ec ≤ 4611686018427387904) :
    Calls Tryf.prog 47 #[.pointer (some ⟨gS, 0, none⟩), .int .i64 o, .string msg] w fun e w' => e = .returned (.tuple #[]) ∧ w.setCell ⟨gS, 8, none⟩ (.int .i64 ((ec + 1 : Nat) : Int)) = w' := by
  have hc7 : w.cell? ⟨gS, 7, none⟩ = some .nilFunc := by rw [hb.cell, h7]
  have hc8 : w.cell? ⟨gS, 8, none⟩ = some (.int .i64 ec) := by rw [hb.cell, h8]
  have hf8 := hb.free 8
  have hnf : ∀ w : World, (binOp .neq 56 .nilFunc .nilFunc).run Tryf.prog w = .ok (.bool false) w := fun _ => by kernel_rfl
  clear hb h7 h8
  go_enter Tryf.func47, Tryf.ntmps47
  go_wp2_with fail
  go_end0
  exact ⟨rfl, by simp⟩

theorem int_info : (Tryf.prog.info? 3).map (fun i => (i.zero, i.size, i.bytes)) = some (some (.int .i64 0), 1, 8) := by kernel_rfl

def AddPost (B gF : Nat) (fx : FileFix) (n : Nat) (lines : List Nat) (lv : Value) (w : World) (e : Ending) (w' : World) : Prop :=
  e = .returned (.tuple #[]) ∧ ∃ lv', Blk w' gF 32 (flCells fx n lv') ∧ w'.ownsRow B 3 1 lv' lines.length (lnCells lines) ∧ Only gF lv w w'

set_option maxHeartbeats 1000000 in
theorem addLine_any (B gF : Nat) (fx : FileFix) (n : Nat) (lines : List Nat) (lv : Value) (o : Nat) (w : World) (hb : Blk w gF 32 (flCells fx n lv)) (hown : w.ownsRow B 3 1 lv lines.length (lnCells lines))
    (hok : LinesOk n lines) (hn : n ≤ 1048576) (ho : o ≤ n) (hB : B ≤ w.heap.size) :
    Calls Tryf.prog 55 #[.pointer (some ⟨gF, 0, none⟩), .int .i64 o] w (AddPost B gF fx n (addLine n o lines) lv w) := by
  obtain ⟨hl0, hl1⟩ := lines_len hok
  obtain ⟨L, hL⟩ : ∃ L, lines.length = L + 1 := ⟨lines.length - 1, by omega⟩
  obtain ⟨i0, hi, hz0, hz1, hz2⟩ := info_parts int_info
  have hne : some gF ≠ lv.ownBlock := own_tag hown hb (by decide)
  obtain ⟨g, cap, hv, hg⟩ : ∃ g cap, lv = .slice (some ⟨g, 0, none⟩) lines.length cap ∧ B ≤ g := by
    rcases hown.2 with ⟨_, h0⟩ | ⟨g, cap, cur, hv, hg, _⟩
    · omega
    · exact ⟨g, cap, hv, hg⟩
  subst hv
  have hlast : w.cell? ⟨g, L, none⟩ = some (.int .i64 (lastOf lines)) := by
    have h1 : (lnCells lines)[L]? = some (.int .i64 (lastOf lines)) := by
      unfold lnCells lastOf
      rw [List.getElem?_map, List.getElem?_eq_getElem (by omega)]
      simp [List.getD, hL]
    have := hown.cells (g := g) rfl L _ h1
    have ea : (⟨g, 0, none⟩ : Addr).add L = ⟨g, L, none⟩ := by unfold Addr.add; split <;> simp_all
    rw [ea] at this
    exact this
  have c3 : w.cell? ⟨gF, 3, none⟩ = some (.int .i64 n) := by rw [hb.cell]; rfl
  have c4 : w.cell? ⟨gF, 4, none⟩ = some (.slice (some ⟨g, 0, none⟩) lines.length cap) := by rw [hb.cell]; rfl
  have f4 := hb.free 4
  have hlt := hb.lt
  rw [hL] at c4
  have t0 : ¬ ((L : Int) + 1 = 0) := by omega
  have hLb : L ≤ 1048576 := by omega
  have hd : lastLt lines o = decide (lastOf lines < o) := by
    unfold lastLt lastOf
    simp [hok.some]
  have HB := Lib.hid hb
  have HO := Lib.hid hown
  have HL := Lib.hid hL
  have HD := Lib.hid hd
  have HN := Lib.hid hne
  clear hb hown hL hd hne hok hl0
  by_cases h1 : lastOf lines < o
  · by_cases h2 : o < n
    · have hown0 : w.ownsRow B 3 1 (.slice (some ⟨g, 0, none⟩) (L + 1) cap) (L + 1) (lnCells lines) := by
        have := HO.out
        rw [HL.out] at this
        exact this
      have HO2 := Lib.hid (hown0.alloc (.cells #[.int .i64 (o : Int)] 3))
      have a1 : ∀ j u, [Value.int .i64 (o : Int)][j]? = some u → (w.alloc (.cells #[.int .i64 (o : Int)] 3)).cell? ((⟨w.heap.size, 0, none⟩ : Addr).add j) = some u := by
        intro j u hj
        have hj0 : j = 0 := by
          rcases j with _ | j
          · rfl
          · simp at hj
        subst hj0
        have hu : Value.int .i64 (o : Int) = u := by simpa using hj
        rw [← hu, show (⟨w.heap.size, 0, none⟩ : Addr).add 0 = ⟨w.heap.size, 0, none⟩ from rfl, (Blk.new w _ _).cell]
        rfl
      have a2 : ∀ u ∈ [Value.int .i64 (o : Int)], u.oneCell' = true := by
        intro u hu
        have hu2 : u = Value.int .i64 (o : Int) := by simpa using hu
        rw [hu2]
        rfl
      have A1 := Lib.hid a1
      have A2 := Lib.hid a2
      have hB1 : B ≤ (w.alloc (.cells #[.int .i64 (o : Int)] 3)).heap.size := by simp; omega
      have HB1 := Lib.hid hB1
      have hm1 : L + 1 + 1 ≤ maxLen := by simp only [maxLen]; omega
      clear hown0 a1 a2 hB1
      go_enter Tryf.func55, Tryf.ntmps55
      go_wp2_with (at_builtin; (
                   refine wpList_append_own _ rfl (.tmp 36) (.tmp 38) 30 rfl B 3 i0 (.int .i64 0) 1 8 Tryf.underlying30 hi hz0 hz1 hz2 rfl (by decide) (.slice (some ⟨g, 0, none⟩) (L + 1) cap) (L + 1) (lnCells lines) rfl HO2.out ⟨w.heap.size, 0, none⟩ 1 1 [.int .i64 (o : Int)] rfl rfl A1.out A2.out hm1 (by omega) HB1.out ?_
                   intro v' w1 hown1 hgrow hiff
                   have HG := Lib.hid hgrow
                   have HW := Lib.hid hown1
                   clear hgrow hown1 hiff
                   refine Hid.out ?_))
      refine Lib.hid ?_
      have hown1 := HW.out
      have hgrow := HG.out
      obtain ⟨g2, cap2, hv2⟩ : ∃ g2 cap2, v' = .slice (some ⟨g2, 0, none⟩) (L + 1 + 1) cap2 := by
        rcases hown1.2 with ⟨_, h0⟩ | ⟨g2, cap2, cur, hv, _⟩
        · omega
        · exact ⟨g2, cap2, hv⟩
      have hb1 : Blk w1 gF 32 (flCells fx n (.slice (some ⟨g, 0, none⟩) lines.length cap)) := (HB.out.alloc _).same (hgrow.block gF (by simp; omega) HN.out)
      have c41 : w1.cell? ⟨gF, 4, none⟩ = some (.slice (some ⟨g, 0, none⟩) lines.length cap) := by rw [hb1.cell]; rfl
      have f41 := hb1.free 4
      have HB2 := Lib.hid hb1
      have HV := Lib.hid hv2
      clear hb1 hgrow hown1
      rw [hv2]
      clear hv2
      go_wp2
      go_end0
      have hv2 := HV.out
      have hgrow := HG.out
      have hown1 := HW.out
      have ea : addLine n o lines = lines ++ [o] := by
        unfold addLine
        rw [if_pos ⟨by rw [HD.out]; simpa using h1, h2⟩]
      refine ⟨rfl, .slice (some ⟨g2, 0, none⟩) (L + 1 + 1) cap2, ?_, ?_, ?_⟩
      · exact HB2.out.put 4 _
      · rw [ea]
        rw [hv2] at hown1
        have e1 : (lines ++ [o]).length = L + 1 + 1 := by simp [HL.out]
        have e2 : lnCells (lines ++ [o]) = lnCells lines ++ [.int .i64 (o : Int)] := by simp [lnCells]
        rw [e1, e2]
        refine own_keep0 hown1 (fun k hk => Below.heap_setCell _ _ _ _ ?_)
        have hgb := own_tag hown1 HB2.out (by decide)
        intro e
        exact hgb (by rw [← hk, e])
      · refine ⟨hgrow.os, hgrow.tape, hgrow.output, ?_, fun k hk hkF hkv => ?_⟩
        · have := hgrow.size
          simp only [World.setCell, Array.size_modify]
          simp at this
          omega
        · rw [Below.heap_setCell _ _ _ _ hkF, hgrow.block k (by simp; omega) hkv, Below.heap_alloc _ _ _ hk]
    · go_enter Tryf.func55, Tryf.ntmps55
      go_wp2
      go_end0
      have ea : addLine n o lines = lines := by
        unfold addLine
        rw [if_neg (fun h => h2 h.2)]
      exact ⟨rfl, _, HB.out, by rw [ea]; exact HO.out, ⟨rfl, rfl, rfl, Nat.le_refl _, fun _ _ _ _ => rfl⟩⟩
  · go_enter Tryf.func55, Tryf.ntmps55
    go_wp2
    go_end0
    have ea : addLine n o lines = lines := by
      unfold addLine
      rw [if_neg (fun h => by have := h.1; rw [HD.out] at this; exact h1 (of_decide_eq_true this))]
    exact ⟨rfl, _, HB.out, by rw [ea]; exact HO.out, ⟨rfl, rfl, rfl, Nat.le_refl _, fun _ _ _ _ => rfl⟩⟩

end Go.Proofs.YtamfekpcoppbgaaFmt
