/-
  Numerals and their padding in plain words; the printer's flags and its scratch memory. Conditions: as stated.
-/
import Derived.Test.YtohcajfgmgpoeaaDoorPP
import Derived.Test.YtohcajfgmgpoeaaDoorSl
namespace Go.Proofs.YtohcajfgmgpoeaaDoor
open Go.RowKit
set_option maxRecDepth 100000
set_option linter.unusedVariables false

/-- a digit's character -/
def hx (d : Nat) : UInt8 := UInt8.ofNat (if d < 10 then 48 + d else 87 + d)
/-- the digits of u ahead of acc -/
def dgs (b : Nat) : Nat → Nat → List UInt8 → List UInt8
  | 0, u, acc => hx u :: acc
  | f + 1, u, acc => if b ≤ u then dgs b f (u / b) (hx (u % b) :: acc) else hx u :: acc
theorem dgs_len (b : Nat) : ∀ (f u : Nat) (acc : List UInt8), acc.length + 1 ≤ (dgs b f u acc).length ∧ (dgs b f u acc).length ≤ acc.length + f + 1
  | 0, u, acc => by simp [dgs]
  | f + 1, u, acc => by
    rw [dgs]
    split
    · have := dgs_len b f (u / b) (hx (u % b) :: acc)
      simp only [List.length_cons] at this
      omega
    · simp only [List.length_cons]
      omega
theorem dgs_acc (b : Nat) : ∀ (f u : Nat) (acc : List UInt8), dgs b f u acc = dgs b f u [] ++ acc
  | 0, u, acc => by simp [dgs]
  | f + 1, u, acc => by
    rw [dgs, dgs]
    split
    · rw [dgs_acc b f (u / b) (hx (u % b) :: acc), dgs_acc b f (u / b) [hx (u % b)]]
      simp
    · rfl
theorem hx_ascii (d : Nat) (h : d < 16) : (hx d).toNat < 128 := by
  unfold hx
  rw [UInt8.toNat_ofNat']
  split <;> omega
theorem dgs_ascii (b : Nat) (hb : 0 < b) (hb2 : b ≤ 16) : ∀ (f u : Nat) (acc : List UInt8), u < b ^ (f + 1) → (∀ c ∈ acc, c.toNat < 128) → ∀ c ∈ dgs b f u acc, c.toNat < 128
  | 0, u, acc, hu, ha => by
    intro c hc
    simp only [dgs, List.mem_cons] at hc
    rcases hc with rfl | hc
    · exact hx_ascii u (by simp at hu; omega)
    · exact ha c hc
  | f + 1, u, acc, hu, ha => by
    intro c hc
    rw [dgs] at hc
    split at hc
    · refine dgs_ascii b hb hb2 f (u / b) (hx (u % b) :: acc) ?_ ?_ c hc
      · rw [Nat.pow_succ] at hu
        exact Nat.div_lt_of_lt_mul (by rw [Nat.mul_comm]; exact hu)
      · intro c hc
        simp only [List.mem_cons] at hc
        rcases hc with rfl | hc
        · exact hx_ascii _ (by have := Nat.mod_lt u hb; omega)
        · exact ha c hc
    · simp only [List.mem_cons] at hc
      rcases hc with rfl | hc
      · exact hx_ascii u (by omega)
      · exact ha c hc
def rep (k : Nat) (c : UInt8) : List UInt8 := List.replicate k c
theorem rep_len (k : Nat) (c : UInt8) : (rep k c).length = k := by simp [rep]
/-- zeros up to p digits -/
def zfill (p : Int) (l : List UInt8) : List UInt8 := rep (p.toNat - l.length) 48 ++ l
theorem zfill_len (p : Int) (l : List UInt8) : (zfill p l).length = max p.toNat l.length := by
  simp only [zfill, List.length_append, rep_len]
  omega
theorem zfill_step (p : Int) (l : List UInt8) (h : (l.length : Int) < p) : zfill p (48 :: l) = zfill p l := by
  unfold zfill rep
  obtain ⟨k, hk⟩ : ∃ k, p.toNat - l.length = k + 1 := ⟨p.toNat - l.length - 1, by omega⟩
  have hk2 : p.toNat - (48 :: l : List UInt8).length = k := by simp only [List.length_cons]; omega
  rw [hk, hk2, List.replicate_succ']
  simp
theorem zfill_done (p : Int) (l : List UInt8) (h : p ≤ (l.length : Int)) : zfill p l = l := by
  unfold zfill rep
  rw [show p.toNat - l.length = 0 by omega]
  rfl
/-- padding with blanks -/
def padT (wp : Bool) (wid : Nat) (minus : Bool) (l : List UInt8) : List UInt8 :=
  if wp = true then (if minus = true then l ++ rep (wid - l.length) 32 else rep (wid - l.length) 32 ++ l) else l

/-! the formatter's flags -/
structure Fl where
  wp : Bool
  pp : Bool
  mi : Bool
  pl : Bool
  sh : Bool
  sp : Bool
  ze : Bool
  wid : Nat
  prec : Nat
structure FmtS (cs : Array Value) (g : Nat) (f : Fl) : Prop where
  size : 88 ≤ cs.size
  cb : cs[2]? = some (.pointer (some ⟨g, 0, none⟩))
  wp : cs[3]? = some (.bool f.wp)
  pp : cs[4]? = some (.bool f.pp)
  mi : cs[5]? = some (.bool f.mi)
  pl : cs[6]? = some (.bool f.pl)
  sh : cs[7]? = some (.bool f.sh)
  sp : cs[8]? = some (.bool f.sp)
  ze : cs[9]? = some (.bool f.ze)
  pv : cs[10]? = some (.bool false)
  sv : cs[11]? = some (.bool false)
  wid : cs[15]? = some (.int .i64 (f.wid : Int))
  prec : cs[16]? = some (.int .i64 (f.prec : Int))
  ib : ∀ i, i < 68 → ∃ z : Int, cs[17 + i]? = some (.int .u8 z)
theorem set_ne {cs : Array Value} {i j : Nat} {v : Value} (h : i ≠ j) : (cs.setIfInBounds i v)[j]? = cs[j]? := by
  rw [Array.getElem?_setIfInBounds, if_neg h]
theorem set_eq {cs : Array Value} {i : Nat} {v : Value} (h : i < cs.size) : (cs.setIfInBounds i v)[i]? = some v := by
  rw [Array.getElem?_setIfInBounds, if_pos rfl, if_pos h]
theorem FmtS.put0 {cs : Array Value} {g : Nat} {f : Fl} (h : FmtS cs g f) (i : Nat) (v : Value) (hi : i = 0 ∨ 85 ≤ i ∨ i = 1) : FmtS (cs.setIfInBounds i v) g f :=
  ⟨by simpa using h.size, by rw [set_ne (by omega)]; exact h.cb, by rw [set_ne (by omega)]; exact h.wp, by rw [set_ne (by omega)]; exact h.pp, by rw [set_ne (by omega)]; exact h.mi, by rw [set_ne (by omega)]; exact h.pl, by rw [set_ne (by omega)]; exact h.sh, by rw [set_ne (by omega)]; exact h.sp, by rw [set_ne (by omega)]; exact h.ze, by rw [set_ne (by omega)]; exact h.pv, by rw [set_ne (by omega)]; exact h.sv, by rw [set_ne (by omega)]; exact h.wid, by rw [set_ne (by omega)]; exact h.prec, fun j hj => by rw [set_ne (by omega)]; exact h.ib j hj⟩
theorem FmtS.puti {cs : Array Value} {g : Nat} {f : Fl} (h : FmtS cs g f) (i : Nat) (hi : i < 68) (z : Int) : FmtS (cs.setIfInBounds (17 + i) (.int .u8 z)) g f :=
  ⟨by simpa using h.size, by rw [set_ne (by omega)]; exact h.cb, by rw [set_ne (by omega)]; exact h.wp, by rw [set_ne (by omega)]; exact h.pp, by rw [set_ne (by omega)]; exact h.mi, by rw [set_ne (by omega)]; exact h.pl, by rw [set_ne (by omega)]; exact h.sh, by rw [set_ne (by omega)]; exact h.sp, by rw [set_ne (by omega)]; exact h.ze, by rw [set_ne (by omega)]; exact h.pv, by rw [set_ne (by omega)]; exact h.sv, by rw [set_ne (by omega)]; exact h.wid, by rw [set_ne (by omega)]; exact h.prec, fun j hj => by
    by_cases hij : i = j
    · subst hij
      exact ⟨z, set_eq (by have := h.size; omega)⟩
    · rw [set_ne (by omega)]
      exact h.ib j hj⟩
/-- the place of a flag in the printer's block -/
inductive FlPut : Nat → Value → Fl → Fl → Prop
  | wp (f : Fl) (b : Bool) : FlPut 3 (.bool b) f { f with wp := b }
  | pp (f : Fl) (b : Bool) : FlPut 4 (.bool b) f { f with pp := b }
  | mi (f : Fl) (b : Bool) : FlPut 5 (.bool b) f { f with mi := b }
  | pl (f : Fl) (b : Bool) : FlPut 6 (.bool b) f { f with pl := b }
  | sh (f : Fl) (b : Bool) : FlPut 7 (.bool b) f { f with sh := b }
  | sp (f : Fl) (b : Bool) : FlPut 8 (.bool b) f { f with sp := b }
  | ze (f : Fl) (b : Bool) : FlPut 9 (.bool b) f { f with ze := b }
  | sv (f : Fl) : FlPut 11 (.bool false) f f
  | wid (f : Fl) (n : Nat) : FlPut 15 (.int .i64 (n : Int)) f { f with wid := n }
  | prec (f : Fl) (n : Nat) : FlPut 16 (.int .i64 (n : Int)) f { f with prec := n }
theorem FmtS.flag {cs : Array Value} {g i : Nat} {f f' : Fl} {u : Value} (h : FmtS cs g f) (hp : FlPut i u f f') : FmtS (cs.setIfInBounds i u) g f' := by
  have hs := h.size
  obtain ⟨h0, h1, h2, h3, h4, h5, h6, h7, h8, h9, h10, h11, h12, h13⟩ := h
  cases hp
  all_goals exact ⟨by simpa using hs, by first | (rw [set_ne (by omega)]; assumption) | exact set_eq (by omega), by first | (rw [set_ne (by omega)]; assumption) | exact set_eq (by omega), by first | (rw [set_ne (by omega)]; assumption) | exact set_eq (by omega), by first | (rw [set_ne (by omega)]; assumption) | exact set_eq (by omega), by first | (rw [set_ne (by omega)]; assumption) | exact set_eq (by omega), by first | (rw [set_ne (by omega)]; assumption) | exact set_eq (by omega), by first | (rw [set_ne (by omega)]; assumption) | exact set_eq (by omega), by first | (rw [set_ne (by omega)]; assumption) | exact set_eq (by omega), by first | (rw [set_ne (by omega)]; assumption) | exact set_eq (by omega), by first | (rw [set_ne (by omega)]; assumption) | exact set_eq (by omega), by first | (rw [set_ne (by omega)]; assumption) | exact set_eq (by omega), by first | (rw [set_ne (by omega)]; assumption) | exact set_eq (by omega), fun j hj => by rw [set_ne (by omega)]; exact h13 j hj⟩

/-- the printer with its flags -/
def PF (B g : Nat) (f : Fl) (v : Value) (buf : List UInt8) (w : World) : Prop := ∃ cs, PB B g cs v buf w ∧ FmtS cs g f
theorem PF.flag {B g i : Nat} {f f' : Fl} {v u : Value} {buf : List UInt8} {w : World} (h : PF B g f v buf w) (hp : FlPut i u f f') : PF B g f' v buf (w.setCell ⟨g, i, none⟩ u) := by
  obtain ⟨cs, h1, h2⟩ := h
  exact ⟨_, h1.put i (by cases hp <;> omega) u, h2.flag hp⟩
theorem PF.drewN {B g : Nat} {f : Fl} {v : Value} {buf : List UInt8} {w : World} (h : PF B g f v buf w) (n : Nat) : PF B g f v buf (w.drewN n) := by
  obtain ⟨cs, h1, h2⟩ := h
  exact ⟨cs, h1.drewN n, h2⟩
theorem PF.drew {B g : Nat} {f : Fl} {v : Value} {buf : List UInt8} {w : World} (h : PF B g f v buf w) : PF B g f v buf w.drew := by
  obtain ⟨cs, h1, h2⟩ := h
  exact ⟨cs, h1.drew, h2⟩
theorem PF.alloc {B g : Nat} {f : Fl} {v : Value} {buf : List UInt8} {w : World} (h : PF B g f v buf w) (o : Obj) : PF B g f v buf (w.alloc o) := by
  obtain ⟨cs, h1, h2⟩ := h
  exact ⟨cs, h1.alloc o, h2⟩
theorem PF.free {B g : Nat} {f : Fl} {v : Value} {buf : List UInt8} {w : World} (h : PF B g f v buf w) (i : Nat) : w.frozen? ⟨g, i, none⟩ = false := by
  obtain ⟨cs, h1, h2⟩ := h
  exact h1.blk.free i
theorem PF.put_below {B g : Nat} {f : Fl} {v : Value} {buf : List UInt8} {w : World} (h : PF B g f v buf w) (i : Nat) (u : Value) : Below B w (w.setCell ⟨g, i, none⟩ u) := by
  obtain ⟨cs, h1, h2⟩ := h
  exact h1.below i u
/-- what the flags' cells hold -/
theorem PF.cells {B g : Nat} {f : Fl} {v : Value} {buf : List UInt8} {w : World} (h : PF B g f v buf w) :
    w.cell? ⟨g, 0, none⟩ = some v ∧ w.cell? ⟨g, 2, none⟩ = some (.pointer (some ⟨g, 0, none⟩)) ∧ w.cell? ⟨g, 3, none⟩ = some (.bool f.wp) ∧ w.cell? ⟨g, 4, none⟩ = some (.bool f.pp) ∧ w.cell? ⟨g, 5, none⟩ = some (.bool f.mi) ∧ w.cell? ⟨g, 6, none⟩ = some (.bool f.pl) ∧
      w.cell? ⟨g, 7, none⟩ = some (.bool f.sh) ∧ w.cell? ⟨g, 8, none⟩ = some (.bool f.sp) ∧ w.cell? ⟨g, 9, none⟩ = some (.bool f.ze) ∧ w.cell? ⟨g, 15, none⟩ = some (.int .i64 (f.wid : Int)) ∧ w.cell? ⟨g, 16, none⟩ = some (.int .i64 (f.prec : Int)) ∧ w.cell? ⟨g, 11, none⟩ = some (.bool false) := by
  obtain ⟨cs, h1, h2⟩ := h
  exact ⟨by rw [h1.blk.cell]; exact h1.c0, by rw [h1.blk.cell]; exact h2.cb, by rw [h1.blk.cell]; exact h2.wp, by rw [h1.blk.cell]; exact h2.pp, by rw [h1.blk.cell]; exact h2.mi, by rw [h1.blk.cell]; exact h2.pl, by rw [h1.blk.cell]; exact h2.sh, by rw [h1.blk.cell]; exact h2.sp, by rw [h1.blk.cell]; exact h2.ze, by rw [h1.blk.cell]; exact h2.wid, by rw [h1.blk.cell]; exact h2.prec, by rw [h1.blk.cell]; exact h2.sv⟩
/-- the printer is left alone by a store into a block that is neither its own nor its buffer's -/
theorem PB.other {B g b j : Nat} {cs : Array Value} {v : Value} {buf : List UInt8} {w : World} (h : PB B g cs v buf w) (hb : b ≠ g) (hB : B ≤ b) (ho : some b ≠ v.ownBlock) (u : Value) : PB B g cs v buf (w.setCell ⟨b, j, none⟩ u) :=
  ⟨h.blk.other (p := ⟨b, j, none⟩) (fun e => hb e.symm) u, h.c0, own_keep0 h.own (fun k hk => Below.heap_setCell w _ u k (fun e => by subst e; exact ho hk)), h.base, by
    have := h.gmax
    exact (World.cell?_of_block (w := w) (Below.heap_setCell w _ u _ (by show 0 ≠ b; omega))).trans h.max, h.gmax⟩

/-! scratch memory at b from o on: n bytes, of which those from i on are l -/
structure Scr (B g : Nat) (f : Fl) (v : Value) (buf : List UInt8) (b o n : Nat) (w : World) (i : Nat) (l : List UInt8) : Prop where
  pf : PF B g f v buf w
  place : (b = g ∧ o = 17 ∧ n = 68) ∨ (b ≠ g ∧ B ≤ b ∧ o = 0 ∧ some b ≠ v.ownBlock ∧ ∃ cells, Blk w b 5 cells)
  all : ∀ k, k < n → ∃ z : Int, w.cell? ⟨b, o + k, none⟩ = some (.int .u8 z)
  at_ : ∀ k (h : k < l.length), w.cell? ⟨b, o + (i + k), none⟩ = some (.int .u8 (l[k].toNat : Int))
  len : i + l.length = n
theorem Scr.base {B g b o n i : Nat} {f : Fl} {v : Value} {buf l : List UInt8} {w : World} (h : Scr B g f v buf b o n w i l) : B ≤ b := by
  obtain ⟨cs, h1, h2⟩ := h.pf
  rcases h.place with ⟨rfl, _⟩ | ⟨_, h3, _⟩
  · exact h1.base
  · exact h3
theorem Scr.free {B g b o n i : Nat} {f : Fl} {v : Value} {buf l : List UInt8} {w : World} (h : Scr B g f v buf b o n w i l) (k : Nat) : w.frozen? ⟨b, k, none⟩ = false := by
  obtain ⟨cs, h1, h2⟩ := h.pf
  rcases h.place with ⟨rfl, _⟩ | ⟨_, _, _, _, cells, hb⟩
  · exact h1.blk.free k
  · exact hb.free k
theorem Scr.lt {B g b o n i : Nat} {f : Fl} {v : Value} {buf l : List UInt8} {w : World} (h : Scr B g f v buf b o n w i l) : b < w.heap.size := by
  obtain ⟨cs, h1, h2⟩ := h.pf
  rcases h.place with ⟨rfl, _⟩ | ⟨_, _, _, _, cells, hb⟩
  · exact h1.blk.lt
  · exact hb.lt
theorem Scr.put_below {B g b o n i : Nat} {f : Fl} {v : Value} {buf l : List UInt8} {w : World} (h : Scr B g f v buf b o n w i l) (k : Nat) (u : Value) : Below B w (w.setCell ⟨b, k, none⟩ u) := (Below.refl _ _).setCell h.base u
theorem Scr.drewN {B g b o n i : Nat} {f : Fl} {v : Value} {buf l : List UInt8} {w : World} (h : Scr B g f v buf b o n w i l) (k : Nat) : Scr B g f v buf b o n (w.drewN k) i l := by
  refine ⟨h.pf.drewN k, ?_, h.all, h.at_, h.len⟩
  rcases h.place with h1 | ⟨h1, h2, h3, h4, cells, h5⟩
  · exact Or.inl h1
  · exact Or.inr ⟨h1, h2, h3, h4, cells, h5⟩
theorem scr_cells {b o n i : Nat} {u : Value} {w w' : World} {cs : Array Value} {t : TypeId} (hb : Blk w b t cs) (hb' : Blk w' b t (cs.setIfInBounds (o + i) u)) {u' : Int} (hu : u = .int .u8 u')
    (hn : i < n) (all : ∀ k, k < n → ∃ z : Int, w.cell? ⟨b, o + k, none⟩ = some (.int .u8 z)) : ∀ k, k < n → ∃ z : Int, w'.cell? ⟨b, o + k, none⟩ = some (.int .u8 z) := by
  intro k hk
  rw [hb'.cell]
  obtain ⟨z, hz⟩ := all k hk
  rw [hb.cell] at hz
  by_cases hik : i = k
  · subst hik
    have hlt : o + i < cs.size := by
      rcases Nat.lt_or_ge (o + i) cs.size with h1 | h1
      · exact h1
      · rw [Array.getElem?_eq_none h1] at hz
        cases hz
    exact ⟨u', by rw [set_eq hlt, hu]⟩
  · exact ⟨z, by rw [set_ne (by omega)]; exact hz⟩
theorem Scr.put {B g b o n i : Nat} {f : Fl} {v : Value} {buf l : List UInt8} {w : World} (h : Scr B g f v buf b o n w (i + 1) l) (c : UInt8) :
    Scr B g f v buf b o n (w.setCell ⟨b, o + i, none⟩ (.int .u8 (c.toNat : Int))) i (c :: l) := by
  have hlen := h.len
  obtain ⟨cs, h1, h2⟩ := h.pf
  have key : ∀ (t : TypeId) (cells : Array Value), Blk w b t cells → Blk (w.setCell ⟨b, o + i, none⟩ (.int .u8 (c.toNat : Int))) b t (cells.setIfInBounds (o + i) (.int .u8 (c.toNat : Int))) →
      (∀ k, k < n → ∃ z : Int, (w.setCell ⟨b, o + i, none⟩ (.int .u8 (c.toNat : Int))).cell? ⟨b, o + k, none⟩ = some (.int .u8 z)) ∧ (∀ k (h : k < (c :: l).length), (w.setCell ⟨b, o + i, none⟩ (.int .u8 (c.toNat : Int))).cell? ⟨b, o + (i + k), none⟩ = some (.int .u8 ((c :: l)[k].toNat : Int))) := by
    intro t cells hb hb'
    refine ⟨scr_cells hb hb' rfl (by omega) h.all, fun k hk => ?_⟩
    rw [hb'.cell]
    rcases k with _ | k
    · obtain ⟨z, hz⟩ := h.all i (by omega)
      rw [hb.cell] at hz
      have hlt : o + i < cells.size := by
        rcases Nat.lt_or_ge (o + i) cells.size with h1 | h1
        · exact h1
        · rw [Array.getElem?_eq_none h1] at hz
          cases hz
      exact set_eq hlt
    · have hk' : k < l.length := by simpa using hk
      have := h.at_ k hk'
      rw [hb.cell] at this
      rw [set_ne (by omega), show o + (i + (k + 1)) = o + (i + 1 + k) by omega, this]
      rfl
  rcases h.place with ⟨rfl, rfl, rfl⟩ | ⟨g1, g2, rfl, g4, cells, hb⟩
  · have hp := h1.put (17 + i) (by omega) (.int .u8 (c.toNat : Int))
    obtain ⟨k1, k2⟩ := key _ cs h1.blk hp.blk
    exact ⟨⟨_, hp, h2.puti i (by omega) _⟩, Or.inl ⟨rfl, rfl, rfl⟩, k1, k2, by simp only [List.length_cons]; omega⟩
  · have hb' := hb.put (0 + i) (.int .u8 (c.toNat : Int))
    obtain ⟨k1, k2⟩ := key _ cells hb hb'
    exact ⟨⟨cs, h1.other g1 g2 g4 _, h2⟩, Or.inr ⟨g1, g2, rfl, g4, _, hb'⟩, k1, k2, by simp only [List.length_cons]; omega⟩
/-- a flag of the printer set while the scratch memory stands -/
theorem Scr.flag {B g b o n i j : Nat} {f f' : Fl} {v u : Value} {buf l : List UInt8} {w : World} (h : Scr B g f v buf b o n w i l) (hp : FlPut j u f f') : Scr B g f' v buf b o n (w.setCell ⟨g, j, none⟩ u) i l := by
  have hj : j < 17 := by cases hp <;> omega
  obtain ⟨cs, h1, h2⟩ := h.pf
  have hblk := h1.blk.put j u
  have hc : ∀ k, k < n → (w.setCell ⟨g, j, none⟩ u).cell? ⟨b, o + k, none⟩ = w.cell? ⟨b, o + k, none⟩ := by
    intro k hk
    rcases h.place with ⟨rfl, rfl, rfl⟩ | ⟨g1, g2, rfl, g4, cells, hb⟩
    · rw [hblk.cell, h1.blk.cell, set_ne (by omega)]
    · rw [(hb.other (p := ⟨g, j, none⟩) g1 u).cell, hb.cell]
  have hlen := h.len
  refine ⟨h.pf.flag hp, ?_, fun k hk => by rw [hc k hk]; exact h.all k hk, fun k hk => by rw [hc (i + k) (by omega)]; exact h.at_ k hk, h.len⟩
  rcases h.place with h1 | ⟨g1, g2, rfl, g4, cells, hb⟩
  · exact Or.inl h1
  · exact Or.inr ⟨g1, g2, rfl, g4, cells, hb.other (p := ⟨g, j, none⟩) g1 u⟩
/-- its bytes as a slice -/
theorem Scr.src {B g b o n i : Nat} {f : Fl} {v : Value} {buf l : List UInt8} {w : World} (h : Scr B g f v buf b o n w i l) : SrcAt w w.heap.size (some ⟨b, o + i, none⟩) l :=
  Or.inr ⟨b, o + i, rfl, h.lt, fun k hk => by rw [Nat.add_assoc]; exact h.at_ k hk⟩
end Go.Proofs.YtohcajfgmgpoeaaDoor
