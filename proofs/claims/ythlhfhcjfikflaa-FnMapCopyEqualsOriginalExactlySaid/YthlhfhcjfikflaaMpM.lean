/-
  Maps whose elements are pointers: how an element reads, look-ups, what a map of integers is and how it is kept. No conditions.
-/
import Derived.Test.YthlhfhcjfikflaaArgs84
import Derived.Maps.Ext
import Derived.Maps.RangeWalk
namespace Go.Proofs.Ythlhfhcjfikflaa
open Go.RowKit Go.Maps
set_option maxRecDepth 100000
set_option linter.unusedVariables false

/-- an element: a pointer of type T to a block, by the block's number -/
def ptrElem (T : TypeId) (v : Value) : Option (DataW Unit × List MemPlace) :=
  match v with
  | .iface t (.pointer (some a)) => if t = T ∧ a = ⟨a.block, 0, none⟩ then some (.lit (.int .i64 (a.block : Int)), []) else none
  | _ => none
theorem ptrElem_mk (T : TypeId) (g : Nat) : ptrElem T (.iface T (.pointer (some ⟨g, 0, none⟩))) = some (.lit (.int .i64 (g : Int)), []) := by
  simp [ptrElem]
def ptrV (T : TypeId) (g : Nat) : Value := .iface T (.pointer (some ⟨g, 0, none⟩))
theorem ptrElem_inv {T : TypeId} {v : Value} {z : DataW Unit × List MemPlace} (h : ptrElem T v = some z) : ∃ g : Nat, v = ptrV T g ∧ z = (.lit (.int .i64 (g : Int)), []) := by
  unfold ptrElem at h
  split at h
  · split at h
    · rename_i t a hc
      obtain ⟨rfl, ha⟩ := hc
      exact ⟨a.block, by unfold ptrV; rw [← ha], (Option.some.inj h).symm⟩
    · cases h
  · cases h
/-- what reads as a string's key is that string -/
theorem keyOf_str_inv {P : Program} {k : TypeId} (hk : P.underlying k = some .string) {key : Value} {kl : Lit} (h : keyOf P k key = some kl) : ∃ s : ByteArray, key = .string s ∧ kl = .string s.data.toList := by
  cases key <;> simp [keyOf, hk, mapKey] at h
  rename_i s
  exact ⟨s, rfl, h.2.symm⟩

section
variable {P : Program} {k T : TypeId} {w : World} {b n : Nat} {D : DataW Unit}
theorem look_ptr {t e : TypeId} (h : w.ownsMap P k (ptrElem T) b n D) (K : Keyed P k) (ht : P.underlying t = some (.map k e)) (hz : (zeroValue e).run P w = .ok .nilIface w) {key : Value} {kl : Lit} (hkey : keyOf P k key = some kl) :
    ((Instr.lookup t (.map (some b)) key false).run P w = .ok .nilIface w ∧ has D kl = false) ∨
    ∃ g : Nat, (Instr.lookup t (.map (some b)) key false).run P w = .ok (ptrV T g) w ∧ ∀ zd, D.atKey kl zd = .lit (.int .i64 (g : Int)) := by
  obtain ⟨es, clock, hb, F, _, rfl⟩ := h
  rcases Maps.fit_look false K ht hz hb F hkey with ⟨hrun, _, hat⟩ | ⟨e0, y, _, _, hrun, hRv, hat, _⟩
  · exact Or.inl ⟨hrun, has_false_of_atKey hat⟩
  · obtain ⟨g, hv, hy⟩ := ptrElem_inv hRv
    refine Or.inr ⟨g, ?_, fun zd => ?_⟩
    · rw [hrun, hv]
      rfl
    · rw [hat zd, hy]
end

theorem size_of_has {D₁ D₂ : DataW Unit} (c₁ : Canon D₁) (c₂ : Canon D₂) (hh : ∀ k, has D₁ k = has D₂ k) : size D₁ = size D₂ := by
  obtain ⟨es₁, rfl, s₁, k₁⟩ := c₁
  obtain ⟨es₂, rfl, s₂, k₂⟩ := c₂
  have sub : ∀ (a b : List (Lit × DataW Unit)), (∀ p ∈ a, WideAt.IsKeyLit p.1) → (∀ k, has (.map a) k = has (.map b) k) → ∀ p, p ∈ a.map (fun p => (p.1, (DataW.nil : DataW Unit))) → p ∈ b.map (fun p => (p.1, (DataW.nil : DataW Unit))) := by
    intro a b ka hab p hp
    obtain ⟨q, hq, rfl⟩ := List.mem_map.1 hp
    have h1 : has (.map a) q.1 = true := List.any_eq_true.2 ⟨q, hq, WideAt.sameKey_self (ka q hq)⟩
    rw [hab] at h1
    obtain ⟨q', hq', hs⟩ := List.any_eq_true.1 h1
    exact List.mem_map.2 ⟨q', hq', by rw [WideAt.sameKey_eq hs]⟩
  have e := eq_of_mem_rising (l₁ := es₁.map (fun p => (p.1, (DataW.nil : DataW Unit)))) (l₂ := es₂.map (fun p => (p.1, (DataW.nil : DataW Unit)))) (by rw [List.pairwise_map]; exact s₁) (by rw [List.pairwise_map]; exact s₂)
    (fun p => ⟨sub es₁ es₂ k₁ hh p, sub es₂ es₁ k₂ (fun k => (hh k).symm) p⟩)
  have := congrArg List.length e
  simpa [size] using this
theorem size_zero {D : DataW Unit} (c : Canon D) : size D = 0 ↔ ∀ k, has D k = false := by
  obtain ⟨es, rfl, s, hk⟩ := c
  constructor
  · intro h k
    have : es = [] := List.eq_nil_of_length_eq_zero h
    subst this
    rfl
  · intro h
    cases es with
    | nil => rfl
    | cons p r =>
      have h1 : has (.map (p :: r)) p.1 = true := List.any_eq_true.2 ⟨p, by simp, WideAt.sameKey_self (hk p (by simp))⟩
      rw [h] at h1
      cases h1

/-- the map's content as a function of the key -/
abbrev MF := Lit → Option Int
def updF (f : MF) (kl : Lit) (v : Option Int) : MF := fun l => if l.sameKey kl then v else f l
theorem updF_same (f : MF) (kl : Lit) (v : Option Int) (hk : WideAt.IsKeyLit kl) : updF f kl v kl = v := by simp [updF, WideAt.sameKey_self hk]
theorem updF_other (f : MF) (kl l : Lit) (v : Option Int) (h : l ≠ kl) : updF f kl v l = f l := by simp [updF, sameKey_ne h]

/-- block b is a map of at most n entries, each a pointer of type T to a block that holds one integer (type tI); f says which -/
structure MapI (P : Program) (k T tI : TypeId) (w : World) (b n : Nat) (D : DataW Unit) (f : MF) : Prop where
  own : w.ownsMap P k (ptrElem T) b n D
  dom : ∀ kl, has D kl = (f kl).isSome
  val : ∀ kl v, f kl = some v → ∃ g : Nat, (∀ z, D.atKey kl z = .lit (.int .i64 (g : Int))) ∧ Blk w g tI #[.int .i64 v]

section
variable {P : Program} {k T tI : TypeId} {w w' : World} {b n : Nat} {D : DataW Unit} {f : MF}
theorem ptr_inj {g g' : Nat} (h : (DataW.lit (.int .i64 (g : Int)) : DataW Unit) = .lit (.int .i64 (g' : Int))) : g = g' := by
  injection h with h
  injection h with _ h
  omega
theorem MapI.at_ (h : MapI P k T tI w b n D f) {kl : Lit} {g : Nat} (hat : ∀ z, D.atKey kl z = .lit (.int .i64 (g : Int))) : ∃ v, f kl = some v ∧ Blk w g tI #[.int .i64 v] := by
  have hh := has_true_of_atKey hat
  rw [h.dom] at hh
  obtain ⟨v, hv⟩ := Option.isSome_iff_exists.1 hh
  obtain ⟨g', h1, h2⟩ := h.val kl v hv
  have := ptr_inj ((hat .nil).symm.trans (h1 .nil))
  subst this
  exact ⟨v, hv, h2⟩
theorem MapI.mono (h : MapI P k T tI w b n D f) {n' : Nat} (hn : n ≤ n') : MapI P k T tI w b n' D f := ⟨h.own.mono hn, h.dom, h.val⟩
theorem MapI.made (w : World) : MapI P k T tI (w.alloc (.map #[] 0)) w.heap.size 0 (.map []) (fun _ => none) :=
  ⟨World.ownsMap_made _ _ _ _, fun _ => rfl, fun _ _ h => by cases h⟩
/-- kept where other blocks than the map's and no block of cells turn -/
theorem MapI.kept (h : MapI P k T tI w b n D f) {row : Option Nat} (hg : w.grownBy w' row) (hb : some b ≠ row) (hr : ∀ r, row = some r → ∀ cs t z, w.heap[r]? ≠ some (.cells cs t z)) : MapI P k T tI w' b n D f := by
  refine ⟨h.own.kept hg hb, h.dom, fun kl v hv => ?_⟩
  obtain ⟨g, h1, h2⟩ := h.val kl v hv
  exact ⟨g, h1, h2.same (hg.block g h2.lt (fun e => hr g e.symm _ _ _ h2))⟩
theorem MapI.below (h : MapI P k T tI w b n D f) (hb : Below w.heap.size w w') : MapI P k T tI w' b n D f := by
  have hg : w.grownBy w' none := ⟨hb.os, hb.tape, hb.output, hb.size, fun i hi _ => hb.block i hi⟩
  exact h.kept hg (by simp) (fun r e => by cases e)
theorem map_no_cells {k' : TypeId} {R : Value → Option (DataW Unit × List MemPlace)} {b' n' : Nat} {D' : DataW Unit} (h : w.ownsMap P k' R b' n' D') : ∀ r, some b' = some r → ∀ cs t z, w.heap[r]? ≠ some (.cells cs t z) := by
  obtain ⟨es, clock, hb, _⟩ := h
  rintro r e cs t z hc
  cases e
  rw [hb] at hc
  cases hc
theorem iter_no_cells {k' : TypeId} {R : Value → Option (DataW Unit × List MemPlace)} {b' r' n' cnt : Nat} {D' : DataW Unit} {left : Lit → Bool} (h : w.ranges P k' R b' r' n' D' left cnt) : ∀ r, some r' = some r → ∀ cs t z, w.heap[r]? ≠ some (.cells cs t z) := by
  obtain ⟨es, clock, since, seen, c0, _, _, _, _, hr, _⟩ := h
  rintro r e cs t z hc
  cases e
  rw [hr] at hc
  cases hc
/-- one integer is laid in -/
theorem MapI.put (h : MapI P k T tI w b n D f) {kl : Lit} {g : Nat} {v : Int} (h1 : w'.ownsMap P k (ptrElem T) b (n + 1) (D.put kl (.lit (.int .i64 (g : Int))))) (hg : w.grownBy w' (some b)) (hk : WideAt.IsKeyLit kl) (hI : Blk w g tI #[.int .i64 v]) :
    MapI P k T tI w' b (n + 1) (D.put kl (.lit (.int .i64 (g : Int)))) (updF f kl (some v)) := by
  have hm := h.own.isMap
  have hr := map_no_cells h.own
  have hkeep : ∀ q u, Blk w q tI #[.int .i64 u] → Blk w' q tI #[.int .i64 u] := fun q u hq => hq.same (hg.block q hq.lt (fun e => hr q e.symm _ _ _ hq))
  refine ⟨h1, fun l => ?_, fun l u hu => ?_⟩
  · by_cases e : l = kl
    · subst e
      rw [has_put_same hm hk, updF_same _ _ _ hk]
      rfl
    · rw [has_put_other e, updF_other _ _ _ _ e, h.dom]
  · by_cases e : l = kl
    · subst e
      rw [updF_same _ _ _ hk] at hu
      cases hu
      exact ⟨g, fun z => atKey_put_same hm hk _ z, hkeep _ _ hI⟩
    · rw [updF_other _ _ _ _ e] at hu
      obtain ⟨q, q1, q2⟩ := h.val l u hu
      exact ⟨q, fun z => by rw [atKey_put_other e]; exact q1 z, hkeep _ _ q2⟩
/-- one key is struck -/
theorem MapI.del (h : MapI P k T tI w b n D f) {kl : Lit} (h1 : w'.ownsMap P k (ptrElem T) b n (D.del kl)) (hg : w.grownBy w' (some b)) (hk : WideAt.IsKeyLit kl) : MapI P k T tI w' b n (D.del kl) (updF f kl none) := by
  have hr := map_no_cells h.own
  have hkeep : ∀ q u, Blk w q tI #[.int .i64 u] → Blk w' q tI #[.int .i64 u] := fun q u hq => hq.same (hg.block q hq.lt (fun e => hr q e.symm _ _ _ hq))
  refine ⟨h1, fun l => ?_, fun l u hu => ?_⟩
  · by_cases e : l = kl
    · subst e
      rw [has_del_same, updF_same _ _ _ hk]
      rfl
    · rw [has_del_other e, updF_other _ _ _ _ e, h.dom]
  · by_cases e : l = kl
    · subst e
      rw [updF_same _ _ _ hk] at hu
      cases hu
    · rw [updF_other _ _ _ _ e] at hu
      obtain ⟨q, q1, q2⟩ := h.val l u hu
      exact ⟨q, fun z => by rw [atKey_del_other e]; exact q1 z, hkeep _ _ q2⟩
theorem MapI.size_eq (K : Keyed P k) {w2 : World} {b2 n2 : Nat} {D2 : DataW Unit} (h : MapI P k T tI w b n D f) (h2 : MapI P k T tI w2 b2 n2 D2 f) : size D = size D2 :=
  size_of_has (h.own.canon K) (h2.own.canon K) (fun l => by rw [h.dom, h2.dom])
theorem MapI.empty_iff (K : Keyed P k) (h : MapI P k T tI w b n D f) : size D = 0 ↔ ∀ l, f l = none := by
  rw [size_zero (h.own.canon K)]
  constructor
  · intro h1 l
    have := h1 l
    rw [h.dom] at this
    simpa using this
  · intro h1 l
    rw [h.dom, h1]
    rfl
end

/-- what the law's builder lays: a later pair wins -/
def bldF (ks : List (List UInt8)) (vs : List Int) : Nat → MF
  | 0 => fun _ => none
  | i + 1 => updF (bldF ks vs i) (.string (ks.getD i [])) (some (vs.getD i 0))
theorem bldF_none (ks : List (List UInt8)) (vs : List Int) : ∀ n, (∀ l, bldF ks vs n l = none) ↔ n = 0
  | 0 => by simp [bldF]
  | n + 1 => by
    constructor
    · intro h
      have := h (.string (ks.getD n []))
      rw [bldF, updF_same _ (.string (ks.getD n [])) _ trivial] at this
      cases this
    · intro h
      cases h
/-- what Equals says of two maps -/
def EqM (s1 s2 : Nat) (f1 f2 : MF) : Prop := s1 = s2 ∧ ∀ l v, f1 l = some v → f2 l = some v
/-- what is left of the test while f1's keys come in some order: 'left': still to come -/
def EqTo (f1 f2 : MF) (left : Lit → Bool) : Prop := ∀ l v, f1 l = some v → left l = false → f2 l = some v
theorem eqTo_start {D : DataW Unit} {f1 f2 : MF} (h : ∀ l, has D l = (f1 l).isSome) : EqTo f1 f2 (has D) := by
  intro l v hv hl
  rw [h, hv] at hl
  cases hl
theorem eqTo_step {f1 f2 : MF} {left : Lit → Bool} {kl : Lit} {v : Int} (h : EqTo f1 f2 left) (hk : WideAt.IsKeyLit kl) (h1 : f1 kl = some v) (h2 : f2 kl = some v) : EqTo f1 f2 (fun z => left z && !z.sameKey kl) := by
  intro l u hu hl
  by_cases e : l = kl
  · subst e
    rw [h1] at hu
    cases hu
    exact h2
  · refine h l u hu ?_
    have := sameKey_ne e
    simpa [this] using hl
theorem eqTo_end {f1 f2 : MF} {left : Lit → Bool} (h : EqTo f1 f2 left) (hl : ∀ l, left l = false) : ∀ l v, f1 l = some v → f2 l = some v := fun l v hv => h l v hv (hl l)
/-- a copy under way: Dout holds the entries that are no longer to come -/
structure CopyTo (P : Program) (k T tI : TypeId) (w : World) (b n : Nat) (f : MF) (left : Lit → Bool) : Prop where
  ex : ∃ D, MapI P k T tI w b n D (fun l => if left l = true then none else f l)
theorem copy_end {P : Program} {k T tI : TypeId} {w : World} {b n : Nat} {f : MF} {left : Lit → Bool} (h : CopyTo P k T tI w b n f left) (hl : ∀ l, left l = false) : ∃ D, MapI P k T tI w b n D f := by
  obtain ⟨D, hD⟩ := h.ex
  refine ⟨D, ?_⟩
  have : (fun l => if left l = true then none else f l) = f := by
    funext l
    simp [hl]
  rw [this] at hD
  exact hD
theorem copyF_start {D : DataW Unit} {f : MF} (h : ∀ l, has D l = (f l).isSome) : (fun l => if has D l = true then none else f l) = (fun _ => none : MF) := by
  funext l
  rw [h]
  cases hf : f l <;> simp
theorem copyF_step {f : MF} {left : Lit → Bool} {kl : Lit} {v : Int} (hk : WideAt.IsKeyLit kl) (h1 : f kl = some v) :
    updF (fun l => if left l = true then none else f l) kl (some v) = fun l => if (left l && !l.sameKey kl) = true then none else f l := by
  funext l
  by_cases e : l = kl
  · subst e
    rw [updF_same _ _ _ hk, WideAt.sameKey_self hk, h1]
    simp
  · rw [updF_other _ _ _ _ e, sameKey_ne e]
    simp
end Go.Proofs.Ythlhfhcjfikflaa
