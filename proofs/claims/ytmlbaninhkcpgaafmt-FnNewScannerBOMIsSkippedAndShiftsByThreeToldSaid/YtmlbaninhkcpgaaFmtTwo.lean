/-
  Two scanners in one memory: what the one does leaves the other as it was. Conditions: as stated.
-/
import Derived.Test.YtmlbaninhkcpgaaFmtSnGZ
import Derived.Test.YtmlbaninhkcpgaaFmtSnS
import Derived.Test.YtmlbaninhkcpgaaFmtSnY
import Derived.Test.YtmlbaninhkcpgaaFmtNewScan
namespace Go.Proofs.YtmlbaninhkcpgaaFmt
open Go.RowKit
set_option maxRecDepth 100000
set_option linter.unusedVariables false

theorem SC.setKp {F : Fix} {A : List UInt8} {s : St} {w : World} (h : SC F A s w) (l : List (Nat × Obj)) (hl : ∀ p ∈ l, w.heap[p.1]? = some p.2 ∧ p.1 ≠ F.gS ∧ p.1 ≠ F.gF ∧ ∀ v, w.cell? ⟨F.gF, 4, none⟩ = some v → some p.1 ≠ v.ownBlock) : SC { F with kp := l } A s w :=
  ⟨h.blkS, h.file, h.srcAt, h.tabs, h.hB, h.hS, h.hF, h.len, h.cap, h.rd, h.off, h.lo, h.lines, h.ch, hl⟩
theorem SC.noKp {F : Fix} {A : List UInt8} {s : St} {w : World} {l : List (Nat × Obj)} (h : SC { F with kp := l } A s w) (hF : F.kp = []) : SC F A s w :=
  ⟨h.blkS, h.file, h.srcAt, h.tabs, h.hB, h.hS, h.hF, h.len, h.cap, h.rd, h.off, h.lo, h.lines, h.ch, fun p hp => by rw [hF] at hp; cases hp⟩
/-- the block of the file's lines -/
structure Ln (F : Fix) (A : List UInt8) (s : St) (w : World) (g : Nat) (cur : Array Value) (lv : Value) : Prop where
  blkF : Blk w F.gF 42 (flCells F.fx A.length lv)
  own : w.ownsRow F.B 3 1 lv s.lines.length (lnCells s.lines)
  at_ : lv.ownBlock = some g
  blk : Blk w g 3 cur
theorem SC.ln {F : Fix} {A : List UInt8} {s : St} {w : World} (h : SC F A s w) : ∃ g cur lv, Ln F A s w g cur lv := by
  obtain ⟨lv, hf, hown⟩ := h.file
  have hl := (lines_len h.lines).1
  have hown2 := hown
  rcases hown2.2 with ⟨_, h0⟩ | ⟨g, cap, cur, rfl, _, hh, _⟩
  · omega
  · exact ⟨g, cur, _, hf, hown, rfl, hh⟩
theorem Ln.cell {F : Fix} {A : List UInt8} {s : St} {w : World} {g : Nat} {cur : Array Value} {lv : Value} (h : Ln F A s w g cur lv) : w.cell? ⟨F.gF, 4, none⟩ = some lv := by
  rw [h.blkF.cell]
  rfl
/-- carried over where its three blocks and all below are as they were -/
theorem SC.move {F : Fix} {A : List UInt8} {s : St} {w w' : World} {g : Nat} {cur : Array Value} {lv : Value} (h : SC F A s w) (hl : Ln F A s w g cur lv) (hF : F.kp = []) (hb : Below F.B w w') (h1 : w'.heap[F.gS]? = w.heap[F.gS]?) (h2 : w'.heap[F.gF]? = w.heap[F.gF]?) (h3 : w'.heap[g]? = w.heap[g]?) : SC F A s w' :=
  ⟨h.blkS.same h1, ⟨lv, hl.blkF.same h2, own_keep hl.own (fun k hk => by rw [hl.at_] at hk; injection hk with hk; rw [hk]; exact h3)⟩, h.srcAt.keep hb.block, tabs_keep h.tabs h.hB.1 h.hB.2 hb.block, h.hB, h.hS, h.hF, h.len, h.cap, h.rd, h.off, h.lo, h.lines, h.ch, fun p hp => by rw [hF] at hp; cases hp⟩
structure Two (F G : Fix) (A B : List UInt8) (s t : St) (w : World) : Prop where
  f : SC F A s w
  g : SC G B t w
  kf : F.kp = []
  kg : G.kp = []
  nS : F.gS ≠ G.gS
  nF : F.gF ≠ G.gF
  nL : ∀ u v, w.cell? ⟨F.gF, 4, none⟩ = some u → w.cell? ⟨G.gF, 4, none⟩ = some v → u.ownBlock ≠ v.ownBlock
theorem Two.symm {F G : Fix} {A B : List UInt8} {s t : St} {w : World} (h : Two F G A B s t w) : Two G F B A t s w := ⟨h.g, h.f, h.kg, h.kf, h.nS.symm, h.nF.symm, fun u v h1 h2 => (h.nL v u h2 h1).symm⟩
theorem Two.step {F G : Fix} {A B : List UInt8} {s t : St} {w : World} (h : Two F G A B s t w) : ∃ l, SC { F with kp := l } A s w ∧ ∀ v w', SC { F with kp := l } A v w' → Below G.B w w' → Two F G A B v t w' := by
  obtain ⟨g, cur, lv, hl⟩ := h.g.ln
  obtain ⟨g0, cur0, lv0, hl0⟩ := h.f.ln
  have hc0 : ∀ v, w.cell? ⟨F.gF, 4, none⟩ = some v → lv0 = v := by
    intro v hv
    have := hl0.cell.symm.trans hv
    injection this
  refine ⟨[(G.gS, .cells (scCells G.gF G.oA B.length G.cap t) 47 (0, 0)), (G.gF, .cells (flCells G.fx B.length lv) 42 (0, 0)), (g, .cells cur 3 (0, 0))], h.f.setKp _ ?_, ?_⟩
  · intro p hp
    simp only [List.mem_cons, List.not_mem_nil, or_false] at hp
    rcases hp with rfl | rfl | rfl
    · refine ⟨h.g.blkS, h.nS.symm, h.g.blkS.tags hl0.blkF (by decide), fun v hv => ?_⟩
      rw [← hc0 v hv]
      exact own_tag hl0.own h.g.blkS (by decide)
    · refine ⟨hl.blkF, hl.blkF.tags h.f.blkS (by decide), h.nF.symm, fun v hv => ?_⟩
      rw [← hc0 v hv]
      exact own_tag hl0.own hl.blkF (by decide)
    · refine ⟨hl.blk, hl.blk.tags h.f.blkS (by decide), hl.blk.tags hl0.blkF (by decide), fun v hv => ?_⟩
      have := h.nL v lv hv hl.cell
      rw [hl.at_] at this
      exact this.symm
  · intro v w' hs hb
    have k1 := hs.kept (G.gS, .cells (scCells G.gF G.oA B.length G.cap t) 47 (0, 0)) (by simp)
    have k2 := hs.kept (G.gF, .cells (flCells G.fx B.length lv) 42 (0, 0)) (by simp)
    have k3 := hs.kept (g, .cells cur 3 (0, 0)) (by simp)
    have hg' : SC G B t w' := h.g.move hl h.kg hb (k1.1.trans h.g.blkS.symm) (k2.1.trans hl.blkF.symm) (k3.1.trans hl.blk.symm)
    refine ⟨hs.noKp h.kf, hg', h.kf, h.kg, h.nS, h.nF, fun u x hu hx => ?_⟩
    have hx2 : w.cell? ⟨G.gF, 4, none⟩ = some x := (World.cell?_of_block (w := w) (a := ⟨G.gF, 4, none⟩) (k2.1.trans hl.blkF.symm)).symm.trans hx
    have hx3 : lv = x := by
      have := hl.cell.symm.trans hx2
      injection this
    rw [← hx3, hl.at_]
    exact (k3.2.2.2 u hu).symm
/-- one call of Scan over the one, the other beside it -/
def TwoPost (F G : Fix) (A B : List UInt8) (s t : St) (w : World) (e : Ending) (w' : World) : Prop :=
  ∃ (k : Int) (l : List UInt8) (o : Nat) (v : St), ScanR A s k l o v ∧ e = .returned (.tuple #[.int .i64 k, .string ⟨l.toArray⟩, .int .i64 ((F.fx.base : Int) + (o : Int))]) ∧ Two F G A B v t w' ∧ Below F.B w w'
theorem scan_two (F G : Fix) (A B : List UInt8) (W0 : World) (hE : Env F W0) (I : Go.Stop.Interp) (hI : I.answers W0.tape) (hTk : TokCells W0) (hbs : F.fx.base ≤ 1000000) (hBB : G.B ≤ F.B)
    (s t : St) (w : World) (h : Two F G A B s t w) (hb : Below F.B W0 w) (hg : Good A s) (hec : s.ec ≤ 80000000000) :
    Calls Tryf.prog 11 #[.pointer (some ⟨F.gS, 0, none⟩)] w (TwoPost F G A B s t w) := by
  obtain ⟨l, hs, hback⟩ := h.step
  have hlen := h.f.len
  have hp : pot A.length s ≤ 90000000000 := by
    unfold pot
    split <;> omega
  refine (scan_any { F with kp := l } A W0 ⟨hE.base, hE.letter, hE.digit⟩ I hI hTk hbs 90000000000 (Nat.le_refl _) _ s w (Nat.le_refl _) hb hs hg hp).mono ?_
  rintro e w' ⟨k, x, o, v, hr, rfl, hs', hb'⟩
  exact ⟨k, x, o, v, hr, rfl, hback v w' hs' (hb'.mono hBB), hb'⟩
theorem Sim.good {A B : List UInt8} {d : Nat} (H : Shf A B d) {s t : St} (h : Sim d s t) (hg : Good A s) : Good B t := by
  have hl := H.len
  have h1 := h.off
  have h2 := h.rd
  rcases hg with ⟨a, b, c⟩ | ⟨a, b, c⟩
  · refine Or.inl ⟨by omega, ?_, ?_⟩
    · rw [h1, H.rn]
      omega
    · rw [h.ch, c, h1, H.rn]
  · exact Or.inr ⟨by omega, by omega, h.ch.trans c⟩
theorem two_first {F : Fix} {A : List UInt8} {s : St} {w : World} (h : SC F A s w) (hF : F.kp = []) {gFb n k : Nat} {fxb : FileFix} {lvb : Value} {xs : List Value} (hfb : Blk w gFb 42 (flCells fxb n lvb)) (hob : w.ownsRow F.B 3 1 lvb k xs) (hne : gFb ≠ F.gF)
    (hl : ∀ v, w.cell? ⟨F.gF, 4, none⟩ = some v → v.ownBlock ≠ lvb.ownBlock) :
    ∃ l, (∀ p ∈ l, w.heap[p.1]? = some p.2 ∧ p.1 ≠ gFb ∧ some p.1 ≠ lvb.ownBlock) ∧ ∀ (G : Fix) (B : List UInt8) (t : St) (w' : World), G.gF = gFb → G.kp = [] → SC { G with kp := l } B t w' → Below F.B w w' → Two F G A B s t w' := by
  obtain ⟨g, cur, lv, hn⟩ := h.ln
  refine ⟨[(F.gS, .cells (scCells F.gF F.oA A.length F.cap s) 47 (0, 0)), (F.gF, .cells (flCells F.fx A.length lv) 42 (0, 0)), (g, .cells cur 3 (0, 0))], ?_, ?_⟩
  · intro p hp
    simp only [List.mem_cons, List.not_mem_nil, or_false] at hp
    rcases hp with rfl | rfl | rfl
    · exact ⟨h.blkS, h.blkS.tags hfb (by decide), own_tag hob h.blkS (by decide)⟩
    · exact ⟨hn.blkF, hne.symm, own_tag hob hn.blkF (by decide)⟩
    · refine ⟨hn.blk, hn.blk.tags hfb (by decide), ?_⟩
      have := hl lv hn.cell
      rw [hn.at_] at this
      exact this
  · intro G B t w' hgF hG hs hb
    have k1 := hs.kept (F.gS, .cells (scCells F.gF F.oA A.length F.cap s) 47 (0, 0)) (by simp)
    have k2 := hs.kept (F.gF, .cells (flCells F.fx A.length lv) 42 (0, 0)) (by simp)
    have k3 := hs.kept (g, .cells cur 3 (0, 0)) (by simp)
    refine ⟨h.move hn hF hb (k1.1.trans h.blkS.symm) (k2.1.trans hn.blkF.symm) (k3.1.trans hn.blk.symm), hs.noKp hG, hF, hG, k1.2.1, k2.2.2.1, fun u v hu hv => ?_⟩
    have hu2 := (World.cell?_of_block (w := w) (a := ⟨F.gF, 4, none⟩) (k2.1.trans hn.blkF.symm)).symm.trans hu
    have hu3 : lv = u := by
      have := hn.cell.symm.trans hu2
      injection this
    rw [← hu3, hn.at_]
    exact k3.2.2.2 v hv
/-- the two files, ahead of the scanners: what the first scanner must keep, and what then is known -/
theorem new_first {B0 gFa gFb na nb : Nat} {fxa fxb : FileFix} {lva lvb : Value} {w7 : World} (hfa : Blk w7 gFa 42 (flCells fxa na lva)) (hoa : w7.ownsRow B0 3 1 lva 1 (lnCells [0])) (hfb : Blk w7 gFb 42 (flCells fxb nb lvb)) (hob : w7.ownsRow B0 3 1 lvb 1 (lnCells [0]))
    (hne : gFb ≠ gFa) (hl : lva.ownBlock ≠ lvb.ownBlock) :
    ∃ kp, (∀ p ∈ kp, w7.heap[p.1]? = some p.2 ∧ p.1 ≠ gFa ∧ some p.1 ≠ lva.ownBlock) ∧ ∀ (gSa : Nat) (oA : Option Addr) (cA : Nat) (A : List UInt8) (s : St) (w8 : World), SC ⟨B0, gSa, gFa, oA, cA, fxa, kp⟩ A s w8 →
      Blk w8 gFb 42 (flCells fxb nb lvb) ∧ w8.ownsRow B0 3 1 lvb 1 (lnCells [0]) ∧
      ∃ l, (∀ p ∈ l, w8.heap[p.1]? = some p.2 ∧ p.1 ≠ gFb ∧ some p.1 ≠ lvb.ownBlock) ∧ ∀ (G : Fix) (B : List UInt8) (t : St) (w' : World), G.gF = gFb → G.kp = [] → SC { G with kp := l } B t w' → Below B0 w8 w' → Two ⟨B0, gSa, gFa, oA, cA, fxa, []⟩ G A B s t w' := by
  have hob2 := hob
  rcases hob2.2 with ⟨_, h0⟩ | ⟨g, cap, cur, hv, _, hh, _⟩
  · omega
  have hat : lvb.ownBlock = some g := by rw [hv]; rfl
  have hbl : Blk w7 g 3 cur := hh
  refine ⟨[(gFb, .cells (flCells fxb nb lvb) 42 (0, 0)), (g, .cells cur 3 (0, 0))], ?_, ?_⟩
  · intro p hp
    simp only [List.mem_cons, List.not_mem_nil, or_false] at hp
    rcases hp with rfl | rfl
    · exact ⟨hfb, hne, own_tag hoa hfb (by decide)⟩
    · refine ⟨hbl, hbl.tags hfa (by decide), ?_⟩
      rw [hat] at hl
      exact hl.symm
  · intro gSa oA cA A s w8 hs
    have k1 := hs.kept (gFb, .cells (flCells fxb nb lvb) 42 (0, 0)) (by simp)
    have k2 := hs.kept (g, .cells cur 3 (0, 0)) (by simp)
    have hfb8 : Blk w8 gFb 42 (flCells fxb nb lvb) := k1.1
    have hob8 : w8.ownsRow B0 3 1 lvb 1 (lnCells [0]) := own_keep hob (fun k hk => by
      rw [hat] at hk
      injection hk with hk
      rw [hk]
      exact k2.1.trans hbl.symm)
    have hs0 : SC ⟨B0, gSa, gFa, oA, cA, fxa, []⟩ A s w8 := SC.noKp (F := ⟨B0, gSa, gFa, oA, cA, fxa, []⟩) hs rfl
    exact ⟨hfb8, hob8, two_first hs0 rfl hfb8 hob8 k1.2.2.1 (fun v hv => by rw [hat]; exact (k2.2.2.2 v hv).symm)⟩
/-! the mark -/
def bom (A : List UInt8) : List UInt8 := 239 :: 187 :: 191 :: A
theorem bom_byte (A : List UInt8) (i : Nat) : bt (bom A) (i + 3) = bt A i := by
  unfold bt bom
  simp [List.getD]
theorem bom_rn (A : List UInt8) (i : Nat) : rn (bom A) (i + 3) = rn A i := by
  unfold rn
  rw [show i + 3 + 1 = i + 1 + 3 by omega, show i + 3 + 2 = i + 2 + 3 by omega, show i + 3 + 3 = i + 3 + 3 from rfl, bom_byte, bom_byte, bom_byte, bom_byte, show (bom A).length - (i + 3) = A.length - i by simp [bom]]
theorem shf_bom (A : List UInt8) (hA : (rn A 0).1 ≠ 65279) : Shf A (bom A) 3 := by
  refine ⟨by simp [bom], bom_byte A, fun i => ?_, fun j k => ?_⟩
  · unfold badc
    rw [bom_rn]
    refine decide_eq_decide.2 ?_
    rcases Nat.eq_zero_or_pos i with rfl | h
    · constructor
      · rintro (h | h | ⟨h, _⟩)
        · exact Or.inl h
        · exact Or.inr (Or.inl h)
        · exact absurd h hA
      · rintro (h | h | ⟨h, _⟩)
        · exact Or.inl h
        · exact Or.inr (Or.inl h)
        · exact absurd h hA
    · constructor
      · rintro (h1 | h1 | ⟨h1, _⟩)
        · exact Or.inl h1
        · exact Or.inr (Or.inl h1)
        · exact Or.inr (Or.inr ⟨h1, h⟩)
      · rintro (h1 | h1 | ⟨h1, _⟩)
        · exact Or.inl h1
        · exact Or.inr (Or.inl h1)
        · exact Or.inr (Or.inr ⟨h1, by omega⟩)
  · unfold cut bom
    rw [show j + 3 = (j + 2) + 1 from rfl, List.drop_succ_cons, show j + 2 = (j + 1) + 1 from rfl, List.drop_succ_cons, List.drop_succ_cons, show k + 3 - (j + 1 + 1 + 1) = k - j by omega]
theorem bom_first (A : List UInt8) : rn (bom A) 0 = (65279, 3) := by
  unfold rn
  rw [show bt (bom A) 0 = 239 from rfl, show bt (bom A) (0 + 1) = 187 from rfl, show bt (bom A) (0 + 2) = 191 from rfl]
  have hl : (bom A).length - 0 = A.length + 3 := by simp [bom]
  rw [hl]
  unfold Lib.decodeN
  rw [if_neg (by decide), if_neg (by omega), if_pos (by omega), if_pos (by omega)]
/-- a step from where two scanners read the same -/
theorem nx_sim {A B : List UInt8} {d : Nat} (H : Shf A B d) {s t : St} (hr : t.rd = s.rd + d) (h1 : t.semi = s.semi) (h2 : t.ec = s.ec) (h3 : t.mode = s.mode) : Sim d (nx A s) (nx B t) := by
  have := Sim.nx H (s := { s with ch := 0, off := 0 }) (t := { t with ch := 0, off := d }) ⟨rfl, (Nat.zero_add d).symm, hr, h1, h2, h3⟩
  have e1 : ∀ (X : List UInt8) (z : St) (a b : Int) (c : Nat), Go.Proofs.YtmlbaninhkcpgaaFmt.nx X { z with ch := a, off := c } = { nl X.length (if z.rd < X.length then z.rd else X.length) { z with ch := a, off := c } with off := (Go.Proofs.YtmlbaninhkcpgaaFmt.nx X z).off, rd := (Go.Proofs.YtmlbaninhkcpgaaFmt.nx X z).rd, ch := (Go.Proofs.YtmlbaninhkcpgaaFmt.nx X z).ch, ec := (Go.Proofs.YtmlbaninhkcpgaaFmt.nx X z).ec } := by
    intro X z a b c
    unfold Go.Proofs.YtmlbaninhkcpgaaFmt.nx
    by_cases hc : z.rd < X.length
    · rw [if_pos (by exact hc), if_pos hc, if_pos hc]
    · rw [if_neg (by exact hc), if_neg hc, if_neg hc]
      rfl
  rw [e1 A s 0 0 0, e1 B t 0 0 d] at this
  exact ⟨this.ch, this.off, this.rd, by rw [nx_semi, nx_semi]; exact h1, this.ec, by rw [nx_mode, nx_mode]; exact h3⟩
theorem stNew_bom (A : List UInt8) (m : Int) (hA : (rn A 0).1 ≠ 65279) : Sim 3 (stNew A m) (stNew (bom A) m) := by
  have H := shf_bom A hA
  have hb : (st0 m).rd < (bom A).length := by simp [bom, st0]
  have eB : nx (bom A) (st0 m) = { nl (bom A).length 0 (st0 m) with off := 0, rd := 0 + 3, ch := 65279, ec := 0 } := by
    unfold nx
    rw [if_pos hb]
    have e0 : (st0 m).rd = 0 := rfl
    have e1 : badc (bom A) 0 = false := by
      unfold badc
      rw [bom_first]
      exact decide_eq_false (by omega)
    rw [e0, e1, bom_first]
    rfl
  have nA : (nx A (st0 m)).ch ≠ 65279 := by
    unfold nx
    split
    · show ((rn A (st0 m).rd).1 : Int) ≠ 65279
      have : (st0 m).rd = 0 := rfl
      rw [this]
      omega
    · show (-1 : Int) ≠ 65279
      decide
  have e1 : stNew A m = nx A (st0 m) := by
    unfold stNew
    rw [if_neg nA]
  have e2 : stNew (bom A) m = nx (bom A) (nx (bom A) (st0 m)) := by
    unfold stNew
    rw [if_pos (by rw [eB])]
  rw [e1, e2]
  refine nx_sim H ?_ ?_ ?_ ?_
  · rw [eB]; rfl
  · rw [nx_semi]
  · rw [eB]; rfl
  · rw [nx_mode]
end Go.Proofs.YtmlbaninhkcpgaaFmt
