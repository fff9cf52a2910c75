/-
  The closing part that every law of this seat shares: a call that returns true and leaves every old block alone meets the law's specification; a listed variable's cells; a world for the witness. No conditions.
-/
import Derived.Test.YtelclbbocnlanaaDoorRows
import Derived.WalkKit
import Derived.ProofKit
import Derived.OpenShut
import Derived.OpenVars
import Derived.Deep.DeepHandedRow
import Derived.Lib.LaidTab
namespace Go.Proofs.YtelclbbocnlanaaDoor
open Go.ChangeShapes Go.WideShapes Go.ChangeAt Go.RowKit

theorem kOwn : ownKnob Tryd.prog.godebug = none := by kernel_rfl
theorem kLaidOut : laidOutB Tryd.prog = true := by kernel_rfl

/-- Every parameter's type can be read and is a row of the table. -/
def paramsRowed (P : Program) (ts : List TypeId) : Bool := ts.all fun t => P.readableRec t && decide (t < P.types.size)

theorem trodAll_lt {H : Type} {enc : TypeId × Value → H} {P : Program} {w : World} {base : Nat} {sp : Nat → Bool} {held : Bool} :
    ∀ {ts : List TypeId} {vs : List Value} {ds : List (DataW H)} {ps : List MemPlace}, DataW.TrodAll enc P w base sp held ts vs ds ps → ds.length = ts.length
  | [], vs, ds, ps, h => by obtain ⟨rfl, rfl, rfl⟩ := trodAll_nil h; rfl
  | t :: ts, vs, ds, ps, h => by
    obtain ⟨v, vs', d, ds', p, q, rfl, rfl, rfl, _, hr⟩ := trodAll_cons h
    simp [trodAll_lt hr]

theorem trodVars_len {H : Type} {enc : TypeId × Value → H} {P : Program} {w : World} {sp : Nat → Bool} :
    ∀ {ns : List String} {gs : List (DataW H)} {ps : List MemPlace}, DataW.TrodVars enc P w sp ns gs ps → gs.length = ns.length
  | [], [], _, _ => rfl
  | [], _ :: _, _, h => h.elim
  | _ :: _, [], _, h => h.elim
  | n :: ns, d :: ds, ps, h => by
    obtain ⟨g, t, cs, fuel, p, q, h1, h2, h3, h4, hs, e⟩ := h
    simp [trodVars_len hs]

theorem below_trodAll {H : Type} {enc : TypeId × Value → H} {P : Program} (hl : laidOutB P = true) {W W' : World} (hb : Below W.heap.size W W') :
    ∀ {ts : List TypeId} {vs : List Value} {ds : List (DataW H)} {ps : List MemPlace}, paramsRowed P ts = true → (∀ x ∈ ps, x.block < W.heap.size) →
      DataW.TrodAll enc P W 0 (fun _ => true) true ts vs ds ps → DataW.TrodAll enc P W' 0 (fun b => decide (b < W.heap.size)) true ts vs ds ps
  | [], vs, ds, ps, _, _, h => by obtain ⟨rfl, rfl, rfl⟩ := trodAll_nil h; exact trodAll_mk0
  | t :: ts, vs, ds, ps, hr, hlt, h => by
    obtain ⟨v, vs', d, ds', p, q, rfl, rfl, rfl, hd, hs⟩ := trodAll_cons h
    simp only [paramsRowed, List.all_cons, Bool.and_eq_true, decide_eq_true_eq] at hr
    exact trodAll_cons_mk (Below.trod hl hr.1.1 hr.1.2 hd hb (fun x hx => hlt x (by simp [hx])))
      (below_trodAll hl hb (by simpa [paramsRowed] using hr.2) (fun x hx => hlt x (by simp [hx])) hs)

/-- THE LAW's POST out of 'Below': the call has returned true, every old block is as it was. -/
theorem law_post {H : Type} {enc : TypeId × Value → H} {P : Program} {f : Func} {s : ChangeSpec} {apart fresh handsOn : Bool} {W W' : World} {args : Array Value} {ds gs : List (DataW H)} {before : List MemPlace} {tb : TypeId}
    (hl : laidOutB P = true) (hp : paramsRowed P f.params.toList = true) (hv : varsRowed P s.vars = true) (hrt : f.resultTypes = #[tb]) (hb : P.underlying tb = some .bool)
    (hfn : ∀ ds gs : List (DataW H), ds.length = f.params.toList.length → gs.length = s.vars.length → s.fn H (ds ++ gs) = { results := [.lit (.bool true)], args := ds, vars := gs })
    (hW : DataW.Whole enc P f.params.toList s.vars apart W args.toList ds gs before) (hB : Below W.heap.size W W') :
    s.post enc P f apart fresh handsOn false W args (.bool true) W' := by
  have hlt := hW.lt
  have hW' := hW
  obtain ⟨p, q, hA, hV, rfl, hfz, hnd⟩ := hW'
  have e := hfn ds gs (trodAll_lt hA) (trodVars_len hV)
  refine ⟨ds, gs, p ++ q, [], p, q, hW, ?_, ?_, ?_, hB.frame _, fun h => by cases h⟩
  · rw [e, hrt]
    exact trodAll_mk1 (shut_bool hb true)
  · rw [e]
    exact below_trodAll hl hB hp (fun x hx => hlt x (by simp [hx])) hA
  · rw [e]
    exact Below.trodVars hl hB hv hV

/-- One listed variable's reading, wherever it stands on the list. -/
def VReads (P : Program) (w : World) (n : String) (d : DataW Unit) : Prop :=
  ∃ g t cs fuel p, P.globalNamed n = some g ∧ (P.globals[g]?).map (·.type) = some t ∧ w.var? P n = some cs ∧ DataW.trod (fun _ => ()) P w 0 (fun _ => true) false fuel t cs.toList = some (d, p)

theorem laidVars_reads {P : Program} {w : World} : ∀ {l : List (String × DataW Unit)} {ps : List MemPlace}, DataW.LaidVars P w l ps → ∀ n d, (n, d) ∈ l → VReads P w n d
  | [], _, _, _, _, hm => by cases hm
  | (n', d') :: r, ps, h, n, d, hm => by
    obtain ⟨g, t, cs, fuel, p, q, h1, h2, h3, h4, h5, _⟩ := h
    rcases List.mem_cons.1 hm with e | e
    · cases e
      exact ⟨g, t, cs, fuel, p, h1, h2, h3, h4⟩
    · exact laidVars_reads h5 n d e
theorem laid_reads {P : Program} {w : World} {l : List (String × DataW Unit)} (h : laidMet P l w) {n : String} {d : DataW Unit} (hm : (n, d) ∈ l) : VReads P w n d :=
  let ⟨_, hv, _⟩ := h
  laidVars_reads hv n d hm

/-- A listed array of integers: the contract's own word. -/
theorem tab_of_reads {P : Program} {W : World} {name : String} {k : IntKind} {zs : List Int} {g : Nat} {t e : TypeId} {n : Nat}
    (hg : P.globalNamed name = some g) (hty : (P.globals[g]?).map (·.type) = some t) (ht : P.underlying t = some (.array n e)) (he : P.underlying e = some (.int k)) (hce : P.cellsOf e = 1) (hct : P.cellsOf t = n)
    (h : VReads P W name (Lib.tabData k zs)) : Lib.TabIs P W name k zs := by
  obtain ⟨g', t', cs, fuel, p, hg', ht', hvar, hd⟩ := h
  obtain rfl := Option.some.inj (hg.symm.trans hg')
  obtain rfl := Option.some.inj (hty.symm.trans ht')
  unfold Lib.TabIs
  rw [hvar, ← Lib.cells_of_tab ht he hce hct hd]

/-- A listed array of strings: its datum, and its cells. -/
def strData {H : Type} (ss : List (List UInt8)) : DataW H := .agg (ss.map fun s => .lit (.string s))

theorem cells_of_strs {H : Type} {enc : TypeId × Value → H} {P : Program} {w : World} {base : Nat} {sp : Nat → Bool} {held : Bool} {fuel : Nat} {t e : TypeId} {n : Nat} {cs : List Value} {ss : List (List UInt8)} {p : List MemPlace}
    (ht : P.underlying t = some (.array n e)) (he : P.underlying e = some .string) (hce : P.cellsOf e = 1) (hct : P.cellsOf t = n)
    (h : DataW.trod enc P w base sp held fuel t cs = some (strData ss, p)) : cs = ss.map fun s => Value.string ⟨s.toArray⟩ := by
  cases fuel with
  | zero => simp [DataW.trod] at h
  | succ fuel =>
    simp only [DataW.trod, ht, hce, hct, Nat.mul_one] at h
    split at h
    · rename_i hl
      obtain ⟨xs, hm, hx⟩ := Option.map_eq_some_iff.1 h
      have hxs : xs.map (·.1) = ss.map fun z => (DataW.lit (.string z) : DataW H) := by
        have := congrArg Prod.fst hx
        simpa [strData] using this
      have hxl : xs.length = n := by simpa using Lib.mapM_length hm
      have hzl : ss.length = n := by
        have := congrArg List.length hxs
        simp at this
        omega
      apply List.ext_getElem?
      intro i
      by_cases hi : i < n
      · obtain ⟨b, hb, hf⟩ := Lib.mapM_at hm i i (by simp [hi])
        obtain ⟨z, hc, rfl, _⟩ := DataW.trod_string he hf
        have h1 : cs[i]? = some (.string z) := by
          have := congrArg (·[0]?) hc
          simpa [List.getElem?_take, List.getElem?_drop] using this
        have h2 : (xs.map (·.1))[i]? = some (DataW.lit (.string z.data.toList) : DataW H) := by simp [hb]
        rw [hxs] at h2
        simp only [List.getElem?_map, Option.map_eq_some_iff, DataW.lit.injEq, Lit.string.injEq] at h2
        obtain ⟨z', hz', e⟩ := h2
        simp [h1, hz', e]
      · rw [List.getElem?_eq_none (by omega), List.getElem?_eq_none (by simp; omega)]
    · cases h

theorem strs_of_reads {P : Program} {W : World} {name : String} {ss : List (List UInt8)} {g : Nat} {t e : TypeId} {n : Nat}
    (hg : P.globalNamed name = some g) (hty : (P.globals[g]?).map (·.type) = some t) (ht : P.underlying t = some (.array n e)) (he : P.underlying e = some .string) (hce : P.cellsOf e = 1) (hct : P.cellsOf t = n)
    (h : VReads P W name (strData ss)) (i : Nat) (hi : i < ss.length) : W.cell? ⟨g, i, none⟩ = some (.string ⟨(ss.getD i []).toArray⟩) := by
  obtain ⟨g', t', cs, fuel, p, hg', ht', hvar, hd⟩ := h
  obtain rfl := Option.some.inj (hg.symm.trans hg')
  obtain rfl := Option.some.inj (hty.symm.trans ht')
  have hc := cells_of_strs ht he hce hct hd
  have hv : W.var? P name = some (ss.map fun s => Value.string ⟨s.toArray⟩).toArray := by
    rw [hvar, ← hc]
  have := World.var?_cell hg hv i
  simpa [List.getD, hi] using this

/-- The cells of a plain datum (integers, strings, arrays and structs of these), for a witness. -/
def cellsOfData : DataW Unit → List Value
  | .lit (.int k n) => [.int k n]
  | .lit (.bool b) => [.bool b]
  | .lit (.string s) => [.string ⟨s.toArray⟩]
  | .agg l => cellsOfAll l
  | _ => []
  where cellsOfAll : List (DataW Unit) → List Value
  | [] => []
  | d :: r => cellsOfData d ++ cellsOfAll r

/-- Block g of a world filled with these cells. -/
def putCells (w : World) (g : Nat) (d : DataW Unit) : World :=
  { w with heap := w.heap.modify g fun
      | .cells _ t frozen => .cells (cellsOfData d).toArray t frozen
      | o => o }

end Go.Proofs.YtelclbbocnlanaaDoor
