/-
  The law's builder of maps, and Copy, Equals, IsFalsy of maps of Ints. Conditions: as stated.
-/
import Derived.Test.YthlhfhcjfikflaaMpM
import Derived.Deep.RegionHeld3
import Derived.Carry
import Derived.WideMake
import Derived.StringKeys
namespace Go.Proofs.Ythlhfhcjfikflaa
open Go.RowKit Go.Maps Go.WideMaps
set_option maxRecDepth 100000
set_option linter.unusedVariables false

theorem lawS : Keyed Try.prog 9 := string_keyed Try.underlying9
theorem zeroO (w : World) : (zeroValue 38).run Try.prog w = .ok .nilIface w := by kernel_rfl
abbrev MI (w : World) (b n : Nat) (D : DataW Unit) (f : MF) : Prop := MapI Try.prog 9 46 48 w b n D f
theorem keyS (l : List UInt8) (h : l.length ≤ maxLen) : keyOf Try.prog 9 (.string ⟨l.toArray⟩) = some (.string l) :=
  keyOf_string_mk Try.underlying9 (s := ⟨l.toArray⟩) (by simpa [ByteArray.size] using h)
theorem wpList_mapUpdate_ptr (w : World) {ops : Array Oper} {rest : List Oper} {o : Oper} {a : Act} {Q : Exit → Act → World → Prop}
    (hg : o.guard = none) (m x v : Operand) (hop : o.op = Op.mapUpdate 30 m x v) (b n : Nat) (D : DataW Unit)
    (hm : a.eval m = .map (some b)) (hown : w.ownsMap Try.prog 9 (ptrElem 46) b n D) (hn : n < maxLen) (l : List UInt8) (hl : l.length ≤ maxLen) (g : Nat)
    (hx : a.eval x = .string ⟨l.toArray⟩) (hv : a.eval v = .iface 46 (.pointer (some ⟨g, 0, none⟩)))
    (hK : ∀ w', w'.ownsMap Try.prog 9 (ptrElem 46) b (n + 1) (D.put (.string l) (.lit (.int .i64 (g : Int)))) → w.grownBy w' (some b) → wpList Try.prog ops Q rest (a.put o.dst undef) w') :
    wpList Try.prog ops Q (o :: rest) a w :=
  wpList_mapUpdate_own w hg m x v 30 hop 9 38 lawS Try.underlying30 (ptrElem 46) b n D hm hown hn _ _ (.string l) hx hv (keyS l hl) _ [] (ptrElem_mk 46 g) hK
theorem wpList_next_ptr (w : World) {ops : Array Oper} {rest : List Oper} {o : Oper} {a : Act} {Q : Exit → Act → World → Prop} (hg : o.guard = none) (it : Operand) (hop : o.op = Op.next it false)
    (b r n : Nat) (D : DataW Unit) (left : Lit → Bool) (cnt : Nat) (hit : a.eval it = .pointer (some ⟨r, 0, none⟩)) (h : w.ranges Try.prog 9 (ptrElem 46) b r n D left cnt)
    (hDone : cnt = 0 → (∀ kl, left kl = false) → wpList Try.prog ops Q rest (a.put o.dst (.tuple #[.bool false])) w)
    (hMore : ∀ (l : List UInt8) (g : Nat) (w' : World) (cnt' : Nat), l.length ≤ maxLen → left (.string l) = true → (∀ zd, D.atKey (.string l) zd = .lit (.int .i64 (g : Int))) → w'.ranges Try.prog 9 (ptrElem 46) b r n D (fun z => left z && !z.sameKey (.string l)) cnt' → cnt' < cnt →
      w.grownBy w' (some r) → w'.heap.size = w.heap.size → (Instr.entry (.pointer (some ⟨r, 0, none⟩))).run Try.prog w' = .ok (.tuple #[.string ⟨l.toArray⟩, .iface 46 (.pointer (some ⟨g, 0, none⟩))]) w' →
      wpList Try.prog ops Q rest (a.put o.dst (.tuple #[.bool true, .string ⟨l.toArray⟩, .iface 46 (.pointer (some ⟨g, 0, none⟩))])) w') :
    wpList Try.prog ops Q (o :: rest) a w :=
  wpList_next_ranges w hg it hop 9 lawS (ptrElem 46) (fun l : List UInt8 => Value.string ⟨l.toArray⟩) (fun g => Value.iface 46 (.pointer (some ⟨g, 0, none⟩)))
    (fun key kl hk => by obtain ⟨s, rfl, _⟩ := keyOf_str_inv Try.underlying9 hk; exact ⟨s.data.toList, rfl⟩) (fun v y hv => by obtain ⟨g, rfl, _⟩ := ptrElem_inv hv; exact ⟨g, rfl⟩)
    b r n D left cnt hit h hDone (fun x c kl y w' cnt' hkey hlk hv hat hrg hlt hgr hsz hen => by
      obtain ⟨s, es, rfl⟩ := keyOf_str_inv Try.underlying9 hkey
      have e1 : s = ⟨x.toArray⟩ := by injection es with es; exact es.symm
      subst e1
      obtain ⟨g, eg, ey⟩ := ptrElem_inv hv
      have e2 : c = g := by
        injection eg with _ eg
        injection eg with eg
        injection eg with eg
        injection eg
      subst e2
      have hlen : x.length ≤ maxLen := by
        have := hkey
        simp [keyOf, Try.underlying9, mapKey] at this
        simpa [ByteArray.size] using this
      exact hMore x c w' cnt' hlen hlk (fun zd => by rw [hat zd, ey]) hrg hlt hgr hsz hen)
/-- a map as the law holds it: nil, or a block; s: its size -/
def MapS (w : World) (v : Value) (s : Nat) (f : MF) : Prop :=
  (v = .map none ∧ s = 0 ∧ ∀ l, f l = none) ∨ ∃ b n D, v = .map (some b) ∧ n ≤ 65537 ∧ s = size D ∧ MI w b n D f
theorem MapS.below {w w' : World} {v : Value} {s : Nat} {f : MF} (h : MapS w v s f) (hb : Below w.heap.size w w') : MapS w' v s f := by
  rcases h with h | ⟨b, n, D, h1, h2, h3, h4⟩
  · exact Or.inl h
  · exact Or.inr ⟨b, n, D, h1, h2, h3, h4.below hb⟩
theorem MapS.size_eq {w w' : World} {v v' : Value} {s s' : Nat} {f : MF} (h : MapS w v s f) (h' : MapS w' v' s' f) : s = s' := by
  rcases h with ⟨_, rfl, h0⟩ | ⟨b, n, D, _, _, rfl, h4⟩
  · rcases h' with ⟨_, rfl, _⟩ | ⟨b', n', D', _, _, rfl, h4'⟩
    · rfl
    · exact ((h4'.empty_iff lawS).2 h0).symm
  · rcases h' with ⟨_, rfl, h0⟩ | ⟨b', n', D', _, _, rfl, h4'⟩
    · exact (h4.empty_iff lawS).2 h0
    · exact h4.size_eq lawS h4'
theorem MapS.zero_iff {w : World} {v : Value} {s : Nat} {f : MF} (h : MapS w v s f) : s = 0 ↔ ∀ l, f l = none := by
  rcases h with ⟨_, rfl, h0⟩ | ⟨b, n, D, _, _, rfl, h4⟩
  · exact ⟨fun _ => h0, fun _ => rfl⟩
  · exact h4.empty_iff lawS

def BuildPost (ks : List (List UInt8)) (vs : List Int) (n : Nat) (nm : Bool) (w : World) (e : Ending) (w' : World) : Prop :=
  ∃ v, e = .returned v ∧ ((nm = true ∧ n = 0 ∧ v = .map none) ∨ (¬ (nm = true ∧ n = 0) ∧ ∃ b D, v = .map (some b) ∧ w.heap.size ≤ b ∧ MI w' b n D (bldF ks vs n))) ∧ Below w.heap.size w w'
set_option maxHeartbeats 4000000 in
theorem build_any (oK oV : Option Addr) (nk nv capK capV n : Nat) (ks : List (List UInt8)) (vs : List Int) (nm : Bool) (w : World) (hnk : ks.length = nk) (hnv : vs.length = nv) (hK : RowAt strV w w.heap.size oK ks) (hV : RowAt intV w w.heap.size oV vs)
    (h1 : n ≤ nk) (h2 : n ≤ nv) (h3 : n ≤ 65536) (hl : ∀ z ∈ ks, z.length ≤ maxLen) :
    Calls Try.prog 11 #[.slice oK nk capK, .slice oV nv capV, .int .i64 (n : Int), .bool nm] w (BuildPost ks vs n nm w) := by
  have hnk2 : nk ≤ 9223372036854775807 ∨ True := Or.inr trivial
  have HNK := Lib.hid hnk
  have HNV := Lib.hid hnv
  have HK := Lib.hid hK
  have HV := Lib.hid hV
  have HL := Lib.hid hl
  have hmm := @run_makeMap Try.prog
  clear hK hV hl hnk hnv hnk2
  by_cases hz : nm = true ∧ n = 0
  · obtain ⟨rfl, rfl⟩ := hz
    go_enter Try.func11, Try.ntmps11
    go_wp2_with fail
    go_ret
    exact ⟨_, rfl, Or.inl ⟨rfl, rfl, rfl⟩, Below.refl _ _⟩
  have HZ := Lib.hid hz
  have hcase : nm = false ∨ (nm = true ∧ ((n : Int) == 0) = false) := by
    rcases nm with _ | _
    · exact Or.inl rfl
    · refine Or.inr ⟨rfl, ?_⟩
      have : n ≠ 0 := fun e => hz ⟨rfl, e⟩
      simp
      omega
  clear hz
  rcases hcase with rfl | ⟨rfl, t0⟩
  all_goals
    go_enter Try.func11, Try.ntmps11
    go_wp2_with fail
    go_loopw [10] (fun v10 wr => ∃ (k : Nat) (D : DataW Unit), k ≤ n ∧ v10 = .int .i64 (k : Int) ∧ MI wr w.heap.size k D (bldF ks vs k) ∧ Below w.heap.size w wr) (fun v10 _ => n - (intOf v10).toNat)
    case atStart => exact ⟨0, .map [], Nat.zero_le _, rfl, MapI.made w, (Below.refl _ _).alloc (Nat.le_refl _) _⟩
    case round =>
      obtain ⟨k, D, hk, rfl, hmi, hb⟩ := hrel
      have HM := Lib.hid hmi
      have HB := Lib.hid hb
      clear hmi hmm
      by_cases hlt : k < n
      · obtain ⟨b1, o1, e1, hb1, hc1⟩ := HK.out.at_ (by have := HNK.out; omega)
        obtain ⟨b2, o2, e2, hb2, hc2⟩ := HV.out.at_ (by have := HNV.out; omega)
        have hkl : k < ks.length := by have := HNK.out; omega
        have hvl : k < vs.length := by have := HNV.out; omega
        have d1 : wr.cell? ⟨b1, o1 + k, none⟩ = some (.string ⟨(ks.getD k []).toArray⟩) := by
          rw [hb.cell (p := ⟨b1, o1 + k, none⟩) hb1, hc1 k hkl]
          simp [List.getD, hkl, strV]
        have d2 : wr.cell? ⟨b2, o2 + k, none⟩ = some (.int .i64 (vs.getD k 0)) := by
          rw [hb.cell (p := ⟨b2, o2 + k, none⟩) hb2, hc2 k hvl]
          simp [List.getD, hvl, intV]
        have hln : (ks.getD k []).length ≤ maxLen := by
          rw [List.getD, List.getElem?_eq_getElem hkl]
          exact HL.out _ (List.getElem_mem _)
        have HF : Hid (bldF ks vs (k + 1) = updF (bldF ks vs k) (.string (ks.getD k [])) (some (vs.getD k 0))) := Lib.hid rfl
        subst e1
        subst e2
        have hwb := hb.size
        clear hc1 hc2 hb
        generalize ks.getD k [] = s at d1 hln HF
        generalize vs.getD k 0 = x at d2 HF
        have q1 : wr.drew.cell? ⟨b1, o1 + k, none⟩ = some (.string ⟨s.toArray⟩) := d1
        have q2 : wr.drew.cell? ⟨b2, o2 + k, none⟩ = some (.int .i64 x) := d2
        have hmlt := HM.out.own.lt
        have HA := Lib.hid (HM.out.below (w' := (wr.alloc (.cells #[.int .i64 x] 48)).drew) ((Below.refl _ _).alloc (Nat.le_refl _) _).drew)
        have HI : Hid (Blk (wr.alloc (.cells #[.int .i64 x] 48)).drew wr.heap.size 48 #[.int .i64 x]) := Lib.hid (Blk.new wr 48 #[.int .i64 x])
        have HBA := Lib.hid ((HB.out.alloc hwb (.cells #[.int .i64 x] 48)).drew)
        have i1 : (k : Int) < (nk : Int) := by omega
        have i2 : (k : Int) < (nv : Int) := by omega
        have i0 : (0 : Int) ≤ (k : Int) := by omega
        obtain ⟨w2, hrun, hown2, hg2⟩ := HA.out.own.update lawS Try.underlying30 (by unfold maxLen; omega) (keyS s hln) (ptrElem_mk 46 wr.heap.size)
        have Q2 := Lib.hid (And.intro hown2 hg2)
        have g1 : w2.cell? ⟨b1, o1 + k, none⟩ = some (.string ⟨s.toArray⟩) := (World.cell?_of_block (w := (wr.alloc (.cells #[.int .i64 x] 48)).drew) (a := ⟨b1, o1 + k, none⟩) (hg2.block b1 (by simp; omega) (by simp; omega))).trans ((World.cell?_of_block (w := wr) (a := ⟨b1, o1 + k, none⟩) (Below.heap_alloc wr (.cells #[.int .i64 x] 48) b1 (by omega))).trans d1)
        have g2 : w2.cell? ⟨b2, o2 + k, none⟩ = some (.int .i64 x) := (World.cell?_of_block (w := (wr.alloc (.cells #[.int .i64 x] 48)).drew) (a := ⟨b2, o2 + k, none⟩) (hg2.block b2 (by simp; omega) (by simp; omega))).trans ((World.cell?_of_block (w := wr) (a := ⟨b2, o2 + k, none⟩) (Below.heap_alloc wr (.cells #[.int .i64 x] 48) b2 (by omega))).trans d2)
        clear hown2 hg2
        go_wp2_with fail
        go_region_held3 (fun w' => w'.cell? ⟨b1, o1 + k, none⟩ = some (.string ⟨s.toArray⟩) ∧ w'.cell? ⟨b2, o2 + k, none⟩ = some (.int .i64 x)) (first | exact ⟨by assumption, by assumption⟩ | go_keep) (fail)
        have HN := Lib.hid (HA.out.put (v := x) Q2.out.1 Q2.out.2 trivial HI.out)
        have HB2 := Lib.hid (HBA.out.grown Q2.out.2 (by have := HBA.out.size; exact this) (fun j hj => by cases hj; exact Nat.le_refl _))
        go_wp2_with fail
        go_roundw
        case rel => exact ⟨k + 1, _, hlt, by go_num, by rw [HF.out]; exact HN.out, HB2.out⟩
        case measure => simp [intOf]; omega
      · obtain rfl : k = n := by omega
        go_wp2_with fail
        go_ret
        exact ⟨_, rfl, Or.inr ⟨by first | (exact fun h => HZ.out ⟨trivial, h.2⟩) | simp, _, _, rfl, Nat.le_refl _, HM.out⟩, HB.out⟩
end Go.Proofs.Ythlhfhcjfikflaa
