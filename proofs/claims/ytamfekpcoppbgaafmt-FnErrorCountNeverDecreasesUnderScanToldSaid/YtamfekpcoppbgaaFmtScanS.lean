/-
  The scanner's whole state in memory as one predicate, and how it is carried over stores. No conditions.
-/
import Derived.Test.YtamfekpcoppbgaaFmtScanW
import Derived.Test.YtamfekpcoppbgaaFmtBytes
namespace Go.Proofs.YtamfekpcoppbgaaFmt
open Go.RowKit
set_option maxRecDepth 100000
set_option linter.unusedVariables false

/-- what of the scanner never turns -/
structure Fix where
  B : Nat
  gS : Nat
  gF : Nat
  oA : Option Addr
  cap : Nat
  fx : FileFix

structure SC (F : Fix) (src : List UInt8) (s : St) (w : World) : Prop where
  blkS : Blk w F.gS 58 (scCells F.gF F.oA src.length F.cap s)
  file : ∃ lv, Blk w F.gF 32 (flCells F.fx src.length lv) ∧ w.ownsRow F.B 3 1 lv s.lines.length (lnCells s.lines)
  srcAt : SrcAt w F.B F.oA src
  tabs : Lib.Utf8Tabs 4 5 w
  hB : 4 < F.B ∧ 5 < F.B
  hS : F.B ≤ F.gS
  hF : F.B ≤ F.gF
  len : src.length ≤ 1048576
  cap : src.length ≤ F.cap
  rd : s.rd ≤ src.length
  off : s.off ≤ src.length
  lo : s.lo ≤ src.length
  lines : LinesOk src.length s.lines
  ch : -1 ≤ s.ch ∧ s.ch ≤ 1114111

/-- only the scanner's own block may have turned -/
structure OnlyS (g : Nat) (w w' : World) : Prop where
  os : w'.os = w.os
  tape : w'.tape = w.tape
  output : w'.output = w.output
  size : w'.heap.size = w.heap.size
  block : ∀ k, k ≠ g → w'.heap[k]? = w.heap[k]?
theorem OnlyS.refl (g : Nat) (w : World) : OnlyS g w w := ⟨rfl, rfl, rfl, rfl, fun _ _ => rfl⟩
theorem OnlyS.put {g : Nat} {a w : World} (h : OnlyS g a w) (i : Nat) (u : Value) : OnlyS g a (w.setCell ⟨g, i, none⟩ u) :=
  ⟨h.os, h.tape, h.output, by simpa [World.setCell] using h.size, fun k hk => (Below.heap_setCell w ⟨g, i, none⟩ u k hk).trans (h.block k hk)⟩
theorem OnlyS.drewN {g : Nat} {a w : World} (h : OnlyS g a w) (n : Nat) : OnlyS g a (w.drewN n) := ⟨h.os, h.tape, h.output, h.size, h.block⟩
theorem OnlyS.drew {g : Nat} {a w : World} (h : OnlyS g a w) : OnlyS g a w.drew := ⟨h.os, h.tape, h.output, h.size, h.block⟩
theorem OnlyS.below {g B : Nat} {w w' : World} (h : OnlyS g w w') (hB : B ≤ g) : Below B w w' :=
  ⟨h.os, h.tape, h.output, Nat.le_of_eq h.size.symm, fun k hk => h.block k (by omega)⟩

theorem tabs_keep {w w' : World} {B g1 g2 : Nat} (h : Lib.Utf8Tabs g1 g2 w) (h1 : g1 < B) (h2 : g2 < B) (hk : ∀ k, k < B → w'.heap[k]? = w.heap[k]?) : Lib.Utf8Tabs g1 g2 w' :=
  ⟨fun c hc => (World.cell?_of_block (w := w) (a := ⟨g1, c, none⟩) (hk g1 h1)).trans (h.1 c hc),
   fun i hi => ⟨(World.cell?_of_block (w := w) (a := ⟨g2, 2 * i, none⟩) (hk g2 h2)).trans (h.2 i hi).1, (World.cell?_of_block (w := w) (a := ⟨g2, 2 * i + 1, none⟩) (hk g2 h2)).trans (h.2 i hi).2⟩⟩
theorem own_keep {w w' : World} {base : Nat} {e : TypeId} {size n : Nat} {v : Value} {xs : List Value} (h : w.ownsRow base e size v n xs) (hk : ∀ k, some k = v.ownBlock → w'.heap[k]? = w.heap[k]?) : w'.ownsRow base e size v n xs := by
  obtain ⟨h1, h2⟩ := h
  refine ⟨h1, ?_⟩
  rcases h2 with h2 | ⟨g, cap, cur, hv, hg, hh, r⟩
  · exact Or.inl h2
  · exact Or.inr ⟨g, cap, cur, hv, hg, (hk g (by rw [hv]; rfl)).trans hh, r⟩

/-- A store into the scanner's own fields, the file's lines as they were. -/
theorem SC.write {F : Fix} {src : List UInt8} {s s' : St} {w w' : World} (h : SC F src s w) (ho : OnlyS F.gS w w') (hb : Blk w' F.gS 58 (scCells F.gF F.oA src.length F.cap s'))
    (hl : s'.lines = s.lines) (h1 : s'.rd ≤ src.length) (h2 : s'.off ≤ src.length) (h3 : s'.lo ≤ src.length) (h4 : -1 ≤ s'.ch ∧ s'.ch ≤ 1114111) : SC F src s' w' := by
  obtain ⟨lv, hf, hown⟩ := h.file
  have hne : F.gF ≠ F.gS := (h.blkS.tags hf (by decide)).symm
  have hk : ∀ k, k < F.B → w'.heap[k]? = w.heap[k]? := fun k hk => ho.block k (by have := h.hS; omega)
  refine ⟨hb, ⟨lv, hf.same (ho.block _ hne), ?_⟩, h.srcAt.keep hk, tabs_keep h.tabs h.hB.1 h.hB.2 hk, h.hB, h.hS, h.hF, h.len, h.cap, h1, h2, h3, by rw [hl]; exact h.lines, h4⟩
  rw [hl]
  exact own_keep hown (fun k hk' => ho.block k (fun e => own_tag hown h.blkS (by decide) (by rw [← e]; exact hk')))

/-- behind a call that leaves every old block as it was -/
theorem SC.below {F : Fix} {src : List UInt8} {s : St} {w w' : World} (h : SC F src s w) (hb : Below w.heap.size w w') : SC F src s w' := by
  obtain ⟨lv, hf, hown⟩ := h.file
  have hk : ∀ k, k < F.B → w'.heap[k]? = w.heap[k]? := fun k hk => hb.block k (by have := h.hS; have := h.blkS.lt; omega)
  refine ⟨h.blkS.same (hb.block _ h.blkS.lt), ⟨lv, hf.same (hb.block _ hf.lt), own_keep hown (fun k hk' => hb.block k ?_)⟩, h.srcAt.keep hk, tabs_keep h.tabs h.hB.1 h.hB.2 hk, h.hB, h.hS, h.hF, h.len, h.cap, h.rd, h.off, h.lo, h.lines, h.ch⟩
  rcases hown.2 with ⟨rfl, _⟩ | ⟨g, cap, cur, rfl, _, hh, _⟩
  · simp [Value.ownBlock] at hk'
  · have : k = g := by simpa [Value.ownBlock] using hk'
    subst this
    exact Blk.lt (t := 3) hh

/-- behind AddLine: the lines are new, all else as it was -/
theorem SC.added {F : Fix} {src : List UInt8} {s : St} {w w' : World} {lines : List Nat} {lv : Value} (h : SC F src s w) (hf : Blk w F.gF 32 (flCells F.fx src.length lv)) (hown : w.ownsRow F.B 3 1 lv s.lines.length (lnCells s.lines))
    (ho : Only F.gF lv w w') (hl : LinesOk src.length lines) (hn : ∃ lv', Blk w' F.gF 32 (flCells F.fx src.length lv') ∧ w'.ownsRow F.B 3 1 lv' lines.length (lnCells lines)) :
    SC F src { s with lines := lines } w' ∧ Below F.B w w' := by
  have hne : F.gS ≠ F.gF := h.blkS.tags hf (by decide)
  have hlt := h.blkS.lt
  have hB := h.hS
  have hk : ∀ k, k < F.B → w'.heap[k]? = w.heap[k]? := fun k hk => ho.block k (by omega) (by have := h.hF; omega) (by
    rcases hown.2 with ⟨rfl, _⟩ | ⟨g, cap, cur, rfl, hg, _⟩
    · simp [Value.ownBlock]
    · intro e
      have : k = g := by simpa [Value.ownBlock] using e
      omega)
  exact ⟨⟨h.blkS.same (ho.block _ hlt hne (own_tag hown h.blkS (by decide))), hn, h.srcAt.keep hk, tabs_keep h.tabs h.hB.1 h.hB.2 hk, h.hB, h.hS, h.hF, h.len, h.cap, h.rd, h.off, h.lo, hl, h.ch⟩,
    ⟨ho.os, ho.tape, ho.output, ho.size, hk⟩⟩

end Go.Proofs.YtamfekpcoppbgaaFmt
