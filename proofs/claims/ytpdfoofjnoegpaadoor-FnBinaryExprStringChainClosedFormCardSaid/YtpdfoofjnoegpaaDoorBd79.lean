/-
  The binary chain built. Conditions: as stated.
-/
import Derived.Test.YtpdfoofjnoegpaaDoorBi79
import Derived.Outline
namespace Go.Proofs.YtpdfoofjnoegpaaDoor
open Go.RowKit
set_option maxRecDepth 100000
set_option linter.unusedVariables false

theorem zzIdent_at (b o n cap : Nat) (i : Int) (k : Nat) (s : List UInt8) (w : World) (hik : i = k) (hi : k < n) (hn : n ≤ 1048576) (hc : w.cell? ⟨b, o + k, none⟩ = some (strV s)) :
    Calls Tryd.prog 10 #[.slice (some ⟨b, o, none⟩) n cap, .slice none 0 0, .int .i64 i] w fun e w' => e = .returned (.pointer (some ⟨w.heap.size, 0, none⟩)) ∧ w' = w.alloc (.cells #[.string ⟨(s).toArray⟩, .int .i64 0] 43) := by
  subst hik
  exact zzIdent_any b o n cap k s w hi hn hc
theorem cell_alloc {w : World} {b o : Nat} {x : Option Value} (h : w.cell? ⟨b, o, none⟩ = x) (hb : b < w.heap.size) (ob : Obj) : (w.alloc ob).cell? ⟨b, o, none⟩ = x :=
  (((Below.refl w.heap.size w).alloc (Nat.le_refl _) ob).cell (p := ⟨b, o, none⟩) hb).trans h
theorem agree_alloc (w : World) (ob : Obj) : Agree w (w.alloc ob) := Agree.below ((Below.refl w.heap.size w).alloc (Nat.le_refl _) ob)
theorem newL (w : World) (p : Nat) (k : Int) (s t : List UInt8) (hs : s.length ≤ 536870912) (ht : t.length ≤ 536870912) (hk : TokAt w) (hsay : Says 8 w p s) :
    Says 8 ((w.alloc (.cells #[.string ⟨(t).toArray⟩, .int .i64 0] 43)).alloc (.cells #[.iface 29 (.pointer (some ⟨p, 0, none⟩)), .iface 35 (.pointer (some ⟨w.heap.size, 0, none⟩)), .int .i64 (opTk k : Int), .int .i64 0] 41)) (w.heap.size + 1) (binT s (opSt k) t) := by
  have hb := Blk.new (w.alloc (.cells #[.string ⟨(t).toArray⟩, .int .i64 0] 43)) 41 #[.iface 29 (.pointer (some ⟨p, 0, none⟩)), .iface 35 (.pointer (some ⟨w.heap.size, 0, none⟩)), .int .i64 (opTk k : Int), .int .i64 0]
  have e : (w.alloc (.cells #[.string ⟨(t).toArray⟩, .int .i64 0] 43)).heap.size = w.heap.size + 1 := by simp
  rw [e] at hb
  have ha := (agree_alloc w (.cells #[.string ⟨(t).toArray⟩, .int .i64 0] 43)).trans (agree_alloc _ (.cells #[.iface 29 (.pointer (some ⟨p, 0, none⟩)), .iface 35 (.pointer (some ⟨w.heap.size, 0, none⟩)), .int .i64 (opTk k : Int), .int .i64 0] 41))
  have hi := (Blk.new w 43 #[.string ⟨t.toArray⟩, .int .i64 0]).alloc (.cells #[.iface 29 (.pointer (some ⟨p, 0, none⟩)), .iface 35 (.pointer (some ⟨w.heap.size, 0, none⟩)), .int .i64 (opTk k : Int), .int .i64 0] 41)
  exact says_biid _ p w.heap.size k s t _ hs ht (ha.1 hk) hb (hsay.later ha) (says_leaf hi)
theorem newR (w : World) (p : Nat) (k : Int) (s t : List UInt8) (hs : s.length ≤ 536870912) (ht : t.length ≤ 536870912) (hk : TokAt w) (hsay : Says 8 w p t) :
    Says 8 ((w.alloc (.cells #[.string ⟨(s).toArray⟩, .int .i64 0] 43)).alloc (.cells #[.iface 35 (.pointer (some ⟨w.heap.size, 0, none⟩)), .iface 29 (.pointer (some ⟨p, 0, none⟩)), .int .i64 (opTk k : Int), .int .i64 0] 41)) (w.heap.size + 1) (binT s (opSt k) t) := by
  have hb := Blk.new (w.alloc (.cells #[.string ⟨(s).toArray⟩, .int .i64 0] 43)) 41 #[.iface 35 (.pointer (some ⟨w.heap.size, 0, none⟩)), .iface 29 (.pointer (some ⟨p, 0, none⟩)), .int .i64 (opTk k : Int), .int .i64 0]
  have e : (w.alloc (.cells #[.string ⟨(s).toArray⟩, .int .i64 0] 43)).heap.size = w.heap.size + 1 := by simp
  rw [e] at hb
  have ha := (agree_alloc w (.cells #[.string ⟨(s).toArray⟩, .int .i64 0] 43)).trans (agree_alloc _ (.cells #[.iface 35 (.pointer (some ⟨w.heap.size, 0, none⟩)), .iface 29 (.pointer (some ⟨p, 0, none⟩)), .int .i64 (opTk k : Int), .int .i64 0] 41))
  have hi := (Blk.new w 43 #[.string ⟨s.toArray⟩, .int .i64 0]).alloc (.cells #[.iface 35 (.pointer (some ⟨w.heap.size, 0, none⟩)), .iface 29 (.pointer (some ⟨p, 0, none⟩)), .int .i64 (opTk k : Int), .int .i64 0] 41)
  exact says_idbi _ w.heap.size p k s t _ hs ht (ha.1 hk) hb (says_leaf hi) (hsay.later ha)
theorem newF (w : World) (k : Int) (s t : List UInt8) (hs : s.length ≤ 536870912) (ht : t.length ≤ 536870912) (hk : TokAt w) :
    Says 8 (((w.alloc (.cells #[.string ⟨(s).toArray⟩, .int .i64 0] 43)).alloc (.cells #[.string ⟨(t).toArray⟩, .int .i64 0] 43)).alloc (.cells #[.iface 35 (.pointer (some ⟨w.heap.size, 0, none⟩)), .iface 35 (.pointer (some ⟨w.heap.size + 1, 0, none⟩)), .int .i64 (opTk k : Int), .int .i64 0] 41)) (w.heap.size + 1 + 1) (binT s (opSt k) t) := by
  have hb := Blk.new ((w.alloc (.cells #[.string ⟨(s).toArray⟩, .int .i64 0] 43)).alloc (.cells #[.string ⟨(t).toArray⟩, .int .i64 0] 43)) 41 #[.iface 35 (.pointer (some ⟨w.heap.size, 0, none⟩)), .iface 35 (.pointer (some ⟨w.heap.size + 1, 0, none⟩)), .int .i64 (opTk k : Int), .int .i64 0]
  have e : ((w.alloc (.cells #[.string ⟨(s).toArray⟩, .int .i64 0] 43)).alloc (.cells #[.string ⟨(t).toArray⟩, .int .i64 0] 43)).heap.size = w.heap.size + 1 + 1 := by simp
  rw [e] at hb
  have ha := ((agree_alloc w (.cells #[.string ⟨(s).toArray⟩, .int .i64 0] 43)).trans (agree_alloc _ (.cells #[.string ⟨(t).toArray⟩, .int .i64 0] 43))).trans (agree_alloc _ (.cells #[.iface 35 (.pointer (some ⟨w.heap.size, 0, none⟩)), .iface 35 (.pointer (some ⟨w.heap.size + 1, 0, none⟩)), .int .i64 (opTk k : Int), .int .i64 0] 41))
  have hi := ((Blk.new w 43 #[.string ⟨s.toArray⟩, .int .i64 0]).alloc (.cells #[.string ⟨(t).toArray⟩, .int .i64 0] 43)).alloc (.cells #[.iface 35 (.pointer (some ⟨w.heap.size, 0, none⟩)), .iface 35 (.pointer (some ⟨w.heap.size + 1, 0, none⟩)), .int .i64 (opTk k : Int), .int .i64 0] 41)
  have hj := (Blk.new (w.alloc (.cells #[.string ⟨(s).toArray⟩, .int .i64 0] 43)) 43 #[.string ⟨t.toArray⟩, .int .i64 0]).alloc (.cells #[.iface 35 (.pointer (some ⟨w.heap.size, 0, none⟩)), .iface 35 (.pointer (some ⟨w.heap.size + 1, 0, none⟩)), .int .i64 (opTk k : Int), .int .i64 0] 41)
  rw [show (w.alloc (.cells #[.string ⟨(s).toArray⟩, .int .i64 0] 43)).heap.size = w.heap.size + 1 by simp] at hj
  exact says_idid _ w.heap.size (w.heap.size + 1) k s t _ hs ht (ha.1 hk) hb (says_leaf hi) (says_leaf hj)
theorem nd_info : (Tryd.prog.info? 29).map (fun i => (i.zero, i.size, i.bytes)) = some (some (.pointer none), 1, 8) := by kernel_rfl
theorem nd_make (n : Nat) (hn : n ≤ 1048576) (w : World) : (Instr.makeSlice 27 (.int .i64 0) (.int .i64 (n : Int))).run Tryd.prog w = .ok (.slice (some ⟨w.heap.size, 0, none⟩) 0 n) (w.alloc (.cells (madeCells #[.pointer none] n) 29)) := by
  obtain ⟨i0, hi, hz0, hz1, hz2⟩ := info_parts nd_info
  have h := run_make (P := Tryd.prog) w 27 29 i0 _ Tryd.underlying27 hi hz0 .i64 .i64 0 n (by omega) (by omega) (by rw [hz2]; omega) (by omega)
  rw [h, hz1]
  simp [Value.cells]
theorem nd_own {w : World} {k : Nat} (hk : k ≤ 1048576) : (w.alloc (.cells (madeCells #[.pointer none] k) 29)).ownsRow w.heap.size 29 1 (.slice (some ⟨w.heap.size, 0, none⟩) 0 k) 0 [] :=
  ⟨by simp, Or.inr ⟨w.heap.size, k, _, rfl, Nat.le_refl _, Blk.new w 29 (madeCells #[.pointer none] k), Nat.zero_le _, by simp [maxLen]; omega, by simp [size_madeCells], by simp⟩⟩
theorem src_nd {w : World} {g p : Nat} (hb : Blk w g 29 #[.pointer (some ⟨p, 0, none⟩)]) : Src Tryd.prog 1 27 (.slice (some ⟨g, 0, none⟩) 1 1) 1 [.pointer (some ⟨p, 0, none⟩)] w := by
  refine Src.ofSlice w Tryd.underlying27 _ _ 1 _ (by simp) (fun j u h => ?_) (fun u h => by rw [List.mem_singleton.1 h]; rfl)
  have hj0 : j = 0 := by
    rcases j with _ | j
    · rfl
    · simp at h
  subst hj0
  have h2 : some (Value.pointer (some ⟨p, 0, none⟩)) = some u := h
  rw [← Option.some.inj h2, show (⟨g, 0, none⟩ : Addr).add 0 = ⟨g, 0, none⟩ from rfl, hb.cell]
  rfl
theorem own_val9 {w : World} {B n : Nat} {v : Value} {xs : List Value} (h : w.ownsRow B 29 1 v n xs) : ∃ ao cp, v = .slice ao n cp := by
  rcases h.2 with ⟨h0, h1⟩ | ⟨g, cap, cur, hv, _⟩
  · exact ⟨none, 0, by rw [h0, h1]⟩
  · exact ⟨_, _, hv⟩
theorem wp_app_node {w : World} {ops : Array Oper} {rest : List Oper} {o : Oper} {a : Act} {Q : Exit → Act → World → Prop} (p : Nat) (hgd : o.guard = none) (s x : Operand)
    (ho : o.op = .call { callee := .builtin .append, args := #[s, x], argTypes := #[27, 27] })
    (B : Nat) (v : Value) (n : Nat) (cs : List Value) (hs : a.eval s = v) (hown : w.ownsRow B 29 1 v n cs) (hx : a.eval x = .slice (some ⟨w.heap.size, 0, none⟩) 1 1)
    (hlen : n + 1 ≤ 1048576) (hB : B ≤ w.heap.size) (hG : 0 < B)
    (h : ∀ ao cp w', w'.ownsRow B 29 1 (.slice ao (n + 1) cp) (n + 1) (cs ++ [.pointer (some ⟨p, 0, none⟩)]) → Below B w w' → Agree w w' → wpList Tryd.prog ops Q rest (a.put o.dst (.slice ao (n + 1) cp)) w') : wpList Tryd.prog ops Q (o :: rest) a (w.alloc (.cells #[.pointer (some ⟨p, 0, none⟩)] 29)) := by
  obtain ⟨i0, hii, hy0, hy1, hy2⟩ := info_parts nd_info
  have hown1 := hown.alloc (.cells #[.pointer (some ⟨p, 0, none⟩)] 29)
  refine wpList_append_own_src hgd s x 27 27 ho B 29 i0 (.pointer none) 1 8 Tryd.underlying27 hii hy0 hy1 hy2 rfl (by decide) v n cs hs hown1 _ 1 [.pointer (some ⟨p, 0, none⟩)] hx (src_nd (Blk.new w 29 #[.pointer (some ⟨p, 0, none⟩)])) (by simp only [maxLen]; omega) (by omega) (by simp; omega) ?_
  intro v2 w2 hown2 hg _
  obtain ⟨ao, cp, rfl⟩ := own_val9 hown2
  have hb1 : Below B w (w.alloc (.cells #[.pointer (some ⟨p, 0, none⟩)] 29)) := (Below.refl B w).alloc hB _
  have hb2 : Below B (w.alloc (.cells #[.pointer (some ⟨p, 0, none⟩)] 29)) w2 := (Below.refl _ _).grown hg (by simp; omega) (fun k hk => (hown1.lt k hk).1)
  refine h ao cp w2 hown2 (hb1.trans hb2) ⟨fun t => t.below hG (hb1.trans hb2), fun k ob hk hne => ?_⟩
  have h1 : (w.alloc (.cells #[.pointer (some ⟨p, 0, none⟩)] 29)).heap[k]? = some ob := by
    rw [Below.heap_alloc w _ k (lt_of_some hk)]
    exact hk
  rw [hg.block k (lt_of_some h1) (fun e => ?_)]
  · exact h1
  · rcases hown1.2 with ⟨rfl, _⟩ | ⟨g, cap, cur, rfl, _, hh, _⟩
    · simp [Value.ownBlock] at e
    · have e2 : k = g := by simpa [Value.ownBlock] using e
      subst e2
      rw [h1] at hh
      exact hne _ _ (Option.some.inj hh)
def nodeL (nm oS : Nat → List UInt8) : Nat → List UInt8
  | 0 => nm 0
  | i + 1 => binT (nodeL nm oS i) (oS i) (nm (i + 1))
def nodeR (nm oS : Nat → List UInt8) (last : Nat) : Nat → List UInt8
  | 0 => nm last
  | d + 1 => binT (nm (last - 1 - d)) (oS (last - 1 - d)) (nodeR nm oS last d)
theorem binT_len (s o t : List UInt8) (ho : o.length ≤ 2) : (binT s o t).length ≤ s.length + t.length + 6 := by
  simp [binT]
  omega
theorem nodeL_len (nm oS : Nat → List UInt8) (h1 : ∀ i, (nm i).length ≤ 1048576) (h2 : ∀ i, (oS i).length ≤ 2) (i : Nat) : (nodeL nm oS i).length ≤ (i + 1) * 1048582 := by
  induction i with
  | zero => have := h1 0; simp [nodeL]; omega
  | succ i ih =>
    have := binT_len (nodeL nm oS i) (oS i) (nm (i + 1)) (h2 i)
    have := h1 (i + 1)
    simp only [nodeL]
    omega
theorem nodeR_len (nm oS : Nat → List UInt8) (last : Nat) (h1 : ∀ i, (nm i).length ≤ 1048576) (h2 : ∀ i, (oS i).length ≤ 2) (i : Nat) : (nodeR nm oS last i).length ≤ (i + 1) * 1048582 := by
  induction i with
  | zero => have := h1 last; simp [nodeR]; omega
  | succ i ih =>
    have := binT_len (nm (last - 1 - i)) (oS (last - 1 - i)) (nodeR nm oS last i) (h2 _)
    have := h1 (last - 1 - i)
    simp only [nodeR]
    omega
def BuildP (s : List UInt8) (d : Nat) (w : World) (e : Ending) (w' : World) : Prop :=
  ∃ ao cp p cs, e = .returned (.slice ao d cp) ∧ cs.length + 1 = d ∧ w'.ownsRow w.heap.size 29 1 (.slice ao d cp) d (cs ++ [.pointer (some ⟨p, 0, none⟩)]) ∧ Says 8 w' p s ∧ Below w.heap.size w w'
def nmOf (ns : List (List UInt8)) (i : Nat) : List UInt8 := ns.getD i []
def zOf (zs : List Int) (i : Nat) : Int := zs.getD i 0
def osOf (zs : List Int) (i : Nat) : List UInt8 := opSt (zOf zs i)
theorem osOf_len (zs : List Int) (i : Nat) : (osOf zs i).length ≤ 2 := opSt_len _
theorem row_nm {ns : List (List UInt8)} {w : World} {b o : Nat} (hc : ∀ i (h : i < ns.length), w.cell? ⟨b, o + i, none⟩ = some (strV ns[i])) (i : Nat) (h : i < ns.length) : w.cell? ⟨b, o + i, none⟩ = some (strV (nmOf ns i)) := by
  rw [hc i h]
  simp [nmOf, List.getD, h]
theorem row_z {zs : List Int} {w : World} {b o : Nat} (hc : ∀ i (h : i < zs.length), w.cell? ⟨b, o + i, none⟩ = some (intV zs[i])) (i : Nat) (h : i < zs.length) : w.cell? ⟨b, o + i, none⟩ = some (.int .i64 (zOf zs i)) := by
  rw [hc i h]
  simp [intV, zOf, List.getD, h]

set_option maxHeartbeats 4000000 in
theorem buildL (oA oB : Option Addr) (capA capB d m : Nat) (ns : List (List UInt8)) (zs : List Int) (w : World) (hns : ns.length = d + 1) (hzs : zs.length = m) (hd : 1 ≤ d) (hd2 : d ≤ 255) (hm : d ≤ m) (hm2 : m ≤ 4096)
    (hl : ∀ i, (nmOf ns i).length ≤ 1048576) (hk : TokAt w) (hA : RowAt strV w w.heap.size oA ns) (hB : RowAt intV w w.heap.size oB zs) :
    Calls Tryd.prog 7 #[.slice oA (d + 1) capA, .slice none 0 0, .slice oB m capB, .bool false] w (BuildP (nodeL (nmOf ns) (osOf zs) d) d w) := by
  obtain ⟨b, o, rfl, hbB, hc⟩ := hA.at_ (by omega)
  obtain ⟨b2, o2, rfl, hbB2, hc2⟩ := hB.at_ (by omega)
  have RN := Lib.hid (row_nm hc)
  have RZ := Lib.hid (row_z hc2)
  have hmk := fun W => nd_make d (by omega) W
  have B1 := (Below.refl w.heap.size w).alloc (Nat.le_refl _) (.cells (madeCells #[.pointer none] d) 29)
  have O1 := Lib.hid (nd_own (w := w) (k := d) (by omega))
  have K1 := hk.below hk.1 B1
  have z1 : (w.alloc (.cells (madeCells #[.pointer none] d) 29)).heap.size = w.heap.size + 1 := by simp
  have cz : (w.alloc (.cells (madeCells #[.pointer none] d) 29)).cell? ⟨b2, o2, none⟩ = some (.int .i64 (zOf zs 0)) := cell_alloc (RZ.out 0 (by omega)) hbB2 _
  have cn0 := cell_alloc (RN.out 0 (by omega)) hbB (.cells (madeCells #[.pointer none] d) 29)
  have cn1 := cell_alloc (RN.out 1 (by omega)) hbB (.cells (madeCells #[.pointer none] d) 29)
  have hB1 : b < (w.alloc (.cells (madeCells #[.pointer none] d) 29)).heap.size := by rw [z1]; omega
  have HNS := Lib.hid hns
  have HZS := Lib.hid hzs
  have HG := Lib.hid hk.1
  have HL := Lib.hid hl
  clear hns hzs hA hB hc hc2 hk hl
  clear z1
  have HK1 := Lib.hid K1
  have HB1 := Lib.hid B1
  have HN0 := Lib.hid cn0
  have HN1 := Lib.hid cn1
  clear K1 B1 cn0 cn1
  generalize hw1 : w.alloc (.cells (madeCells #[.pointer none] d) 29) = w1 at O1 cz HK1 HB1 HN0 HN1 hB1 hmk
  go_enter Tryd.func7, Tryd.ntmps7
  go_wp2_with first | (go_at_call 9; refine (zzOp_any _ _).mono ?_; rintro e wz ⟨rfl, rfl⟩) | (go_at_call 10; refine Hid.out ?_)
  refine Lib.hid ?_
  refine (zzIdent_at b o (d + 1) capA _ 0 (nmOf ns 0) _ rfl (by omega) (by omega) HN0.out).mono ?_
  rintro e w2 ⟨rfl, rfl⟩
  go_wp2_with first | (go_at_call 9; refine (zzOp_any _ _).mono ?_; rintro e wz ⟨rfl, rfl⟩) | (go_at_call 10; refine Hid.out ?_)
  refine Lib.hid ?_
  refine (zzIdent_at b o (d + 1) capA _ 1 (nmOf ns 1) _ rfl (by omega) (by omega) (cell_alloc HN1.out hB1 _)).mono ?_
  rintro e w3 ⟨rfl, rfl⟩
  go_wp2_with (at_builtin; refine Hid.out ?_)
  refine Lib.hid ?_
  have NF := newF w1 (zOf zs 0) (nmOf ns 0) (nmOf ns 1) (by have := HL.out 0; omega) (by have := HL.out 1; omega) HK1.out
  have ON := ((O1.out.alloc (.cells #[.string ⟨(nmOf ns 0).toArray⟩, .int .i64 0] 43)).alloc (.cells #[.string ⟨(nmOf ns 1).toArray⟩, .int .i64 0] 43)).alloc (.cells #[.iface 35 (.pointer (some ⟨w1.heap.size, 0, none⟩)), .iface 35 (.pointer (some ⟨w1.heap.size + 1, 0, none⟩)), .int .i64 (opTk (zOf zs 0) : Int), .int .i64 0] 41)
  have BN := ((HB1.out.alloc HB1.out.size (.cells #[.string ⟨(nmOf ns 0).toArray⟩, .int .i64 0] 43)).alloc (by have := HB1.out.size; simp; omega) (.cells #[.string ⟨(nmOf ns 1).toArray⟩, .int .i64 0] 43)).alloc (by have := HB1.out.size; simp; omega) (.cells #[.iface 35 (.pointer (some ⟨w1.heap.size, 0, none⟩)), .iface 35 (.pointer (some ⟨w1.heap.size + 1, 0, none⟩)), .int .i64 (opTk (zOf zs 0) : Int), .int .i64 0] 41)
  have zN : w1.heap.size + 1 + 1 + 1 = (((w1.alloc (.cells #[.string ⟨(nmOf ns 0).toArray⟩, .int .i64 0] 43)).alloc (.cells #[.string ⟨(nmOf ns 1).toArray⟩, .int .i64 0] 43)).alloc (.cells #[.iface 35 (.pointer (some ⟨w1.heap.size, 0, none⟩)), .iface 35 (.pointer (some ⟨w1.heap.size + 1, 0, none⟩)), .int .i64 (opTk (zOf zs 0) : Int), .int .i64 0] 41)).heap.size := by simp
  have KN := TokAt.below HK1.out HK1.out.1 ((((Below.refl w1.heap.size w1).alloc (Nat.le_refl _) (.cells #[.string ⟨(nmOf ns 0).toArray⟩, .int .i64 0] 43)).alloc (by simp) (.cells #[.string ⟨(nmOf ns 1).toArray⟩, .int .i64 0] 43)).alloc (by simp; omega) (.cells #[.iface 35 (.pointer (some ⟨w1.heap.size, 0, none⟩)), .iface 35 (.pointer (some ⟨w1.heap.size + 1, 0, none⟩)), .int .i64 (opTk (zOf zs 0) : Int), .int .i64 0] 41))
  rw [zN]
  clear zN
  generalize (((w1.alloc (.cells #[.string ⟨(nmOf ns 0).toArray⟩, .int .i64 0] 43)).alloc (.cells #[.string ⟨(nmOf ns 1).toArray⟩, .int .i64 0] 43)).alloc (.cells #[.iface 35 (.pointer (some ⟨w1.heap.size, 0, none⟩)), .iface 35 (.pointer (some ⟨w1.heap.size + 1, 0, none⟩)), .int .i64 (opTk (zOf zs 0) : Int), .int .i64 0] 41)) = w4 at NF ON BN KN ⊢
  generalize w1.heap.size + 1 + 1 = p4 at NF ⊢
  refine wp_app_node p4 rfl (.tmp 48) (.tmp 50) rfl w.heap.size _ 0 [] rfl ON rfl (by omega) BN.size HG.out ?_
  intro ao5 cp5 w5 hown5 hb5 ha5
  have O5 := Lib.hid hown5
  have B5 := Lib.hid (BN.trans hb5)
  have S5 := Lib.hid (NF.later ha5)
  have K5 := Lib.hid (ha5.1 KN)
  clear hown5 hb5 ha5 NF ON BN KN O1 HB1 HK1 HN0 HN1 cz hmk hw1 hB1
  go_wp2_with fail
  go_loopw [10, 13, 14] (fun v c i wr => ∃ (j : Nat) (ao : Option Addr) (cp p : Nat) (cs : List Value), 1 ≤ j ∧ j ≤ d ∧ i = .int .i64 ((j : Int) + 1) ∧ v = .slice ao j cp ∧ c = .pointer (some ⟨p, 0, none⟩) ∧ cs.length + 1 = j ∧ wr.ownsRow w.heap.size 29 1 v j (cs ++ [.pointer (some ⟨p, 0, none⟩)]) ∧ Says 8 wr p (nodeL (nmOf ns) (osOf zs) j) ∧ TokAt wr ∧ Below w.heap.size w wr) (fun _ _ i _ => d + 1 - (intOf i).toNat)
  case atStart => exact ⟨1, ao5, cp5, p4, [], Nat.le_refl _, hd, rfl, rfl, rfl, rfl, O5.out, S5.out, K5.out, B5.out⟩
  case round =>
    obtain ⟨j, ao, cp, p, cs, hj1, hj2, rfl, rfl, rfl, hcs, hown, hsay, hk, hbel⟩ := hrel
    have HCS := Lib.hid hcs
    have HO := Lib.hid hown
    have HSY := Lib.hid hsay
    have HK := Lib.hid hk
    have HBL := Lib.hid hbel
    clear O5 S5 K5 B5 hcs hown hsay hk hbel
    by_cases hlt : j < d
    · have tl : decide ((j : Int) + 1 < (d : Int) + 1) = true := by simp; omega
      have cz := (HBL.out.cell (p := ⟨b2, o2 + j, none⟩) hbB2).trans (RZ.out j (by have := HZS.out; omega))
      have HCN := Lib.hid ((HBL.out.cell (p := ⟨b, o + (j + 1), none⟩) hbB).trans (RN.out (j + 1) (by have := HNS.out; omega)))
      go_wp2_with first | (go_at_call 9; refine (zzOp_any _ _).mono ?_; rintro e wz ⟨rfl, rfl⟩) | (go_at_call 10; refine Hid.out ?_)
      refine Lib.hid ?_
      refine (zzIdent_at b o (d + 1) capA _ (j + 1) (nmOf ns (j + 1)) _ (by go_num) (by omega) (by omega) HCN.out).mono ?_
      rintro e w3 ⟨rfl, rfl⟩
      go_wp2_with (at_builtin; refine Hid.out ?_)
      refine Lib.hid ?_
      have hnl := nodeL_len (nmOf ns) (osOf zs) HL.out (osOf_len zs) j
      have NF := newL wr p (zOf zs j) (nodeL (nmOf ns) (osOf zs) j) (nmOf ns (j + 1)) (by omega) (by have := HL.out (j + 1); omega) HK.out HSY.out
      have ON := (HO.out.alloc (.cells #[.string ⟨(nmOf ns (j + 1)).toArray⟩, .int .i64 0] 43)).alloc (.cells #[.iface 29 (.pointer (some ⟨p, 0, none⟩)), .iface 35 (.pointer (some ⟨wr.heap.size, 0, none⟩)), .int .i64 (opTk (zOf zs j) : Int), .int .i64 0] 41)
      have BN := (HBL.out.alloc HBL.out.size (.cells #[.string ⟨(nmOf ns (j + 1)).toArray⟩, .int .i64 0] 43)).alloc (by have := HBL.out.size; simp; omega) (.cells #[.iface 29 (.pointer (some ⟨p, 0, none⟩)), .iface 35 (.pointer (some ⟨wr.heap.size, 0, none⟩)), .int .i64 (opTk (zOf zs j) : Int), .int .i64 0] 41)
      have zN : wr.heap.size + 1 + 1 = ((wr.alloc (.cells #[.string ⟨(nmOf ns (j + 1)).toArray⟩, .int .i64 0] 43)).alloc (.cells #[.iface 29 (.pointer (some ⟨p, 0, none⟩)), .iface 35 (.pointer (some ⟨wr.heap.size, 0, none⟩)), .int .i64 (opTk (zOf zs j) : Int), .int .i64 0] 41)).heap.size := by simp
      have KN := TokAt.below HK.out HK.out.1 (((Below.refl wr.heap.size wr).alloc (Nat.le_refl _) (.cells #[.string ⟨(nmOf ns (j + 1)).toArray⟩, .int .i64 0] 43)).alloc (by simp) (.cells #[.iface 29 (.pointer (some ⟨p, 0, none⟩)), .iface 35 (.pointer (some ⟨wr.heap.size, 0, none⟩)), .int .i64 (opTk (zOf zs j) : Int), .int .i64 0] 41))
      rw [zN]
      clear zN hnl
      generalize ((wr.alloc (.cells #[.string ⟨(nmOf ns (j + 1)).toArray⟩, .int .i64 0] 43)).alloc (.cells #[.iface 29 (.pointer (some ⟨p, 0, none⟩)), .iface 35 (.pointer (some ⟨wr.heap.size, 0, none⟩)), .int .i64 (opTk (zOf zs j) : Int), .int .i64 0] 41)) = w4 at NF ON BN KN ⊢
      generalize wr.heap.size + 1 = p4 at NF ⊢
      refine wp_app_node p4 rfl (.tmp 76) (.tmp 78) rfl w.heap.size _ j _ rfl ON rfl (by omega) BN.size HG.out ?_
      intro ao5 cp5 w5 hown5 hb5 ha5
      have O5 := Lib.hid hown5
      have B5 := Lib.hid (BN.trans hb5)
      have S5 := Lib.hid (NF.later ha5)
      have K5 := Lib.hid (ha5.1 KN)
      clear hown5 hb5 ha5 NF ON BN KN cz tl
      go_wp2_with fail
      go_roundw
      case rel => exact ⟨j + 1, ao5, cp5, p4, cs ++ [.pointer (some ⟨p, 0, none⟩)], by omega, by omega, by go_num, rfl, rfl, by have := HCS.out; simp; omega, O5.out, S5.out, K5.out, B5.out⟩
      case measure => simp [intOf]; omega
    · obtain rfl : j = d := by omega
      have tl : decide ((j : Int) + 1 < (j : Int) + 1) = false := by simp
      go_wp2_with fail
      go_ret
      exact ⟨ao, cp, p, cs, rfl, HCS.out, HO.out, HSY.out, HBL.out⟩

set_option maxHeartbeats 4000000 in
theorem buildR (oA oB : Option Addr) (capA capB d m : Nat) (ns : List (List UInt8)) (zs : List Int) (w : World) (hns : ns.length = d + 2) (hzs : zs.length = m) (hd2 : d ≤ 255) (hm : d + 1 ≤ m) (hm2 : m ≤ 4096)
    (hl : ∀ i, (nmOf ns i).length ≤ 1048576) (hk : TokAt w) (hA : RowAt strV w w.heap.size oA ns) (hB : RowAt intV w w.heap.size oB zs) :
    Calls Tryd.prog 7 #[.slice oA (d + 2) capA, .slice none 0 0, .slice oB m capB, .bool true] w (BuildP (nodeR (nmOf ns) (osOf zs) (d + 1) (d + 1)) (d + 1) w) := by
  obtain ⟨b, o, rfl, hbB, hc⟩ := hA.at_ (by omega)
  obtain ⟨b2, o2, rfl, hbB2, hc2⟩ := hB.at_ (by omega)
  have RN := Lib.hid (row_nm hc)
  have RZ := Lib.hid (row_z hc2)
  have hmk : ∀ W, (Instr.makeSlice 27 (.int .i64 0) (.int .i64 ((d : Int) + 2 - 1))).run Tryd.prog W = .ok (.slice (some ⟨W.heap.size, 0, none⟩) 0 (d + 1)) (W.alloc (.cells (madeCells #[.pointer none] (d + 1)) 29)) := by
    intro W
    have := nd_make (d + 1) (by omega) W
    rw [show ((d + 1 : Nat) : Int) = (d : Int) + 2 - 1 by omega] at this
    exact this
  have B1 := (Below.refl w.heap.size w).alloc (Nat.le_refl _) (.cells (madeCells #[.pointer none] (d + 1)) 29)
  have O1 := Lib.hid (nd_own (w := w) (k := d + 1) (by omega))
  have K1 := hk.below hk.1 B1
  have cz : (w.alloc (.cells (madeCells #[.pointer none] (d + 1)) 29)).cell? ⟨b2, o2 + d, none⟩ = some (.int .i64 (zOf zs d)) := cell_alloc (RZ.out d (by omega)) hbB2 _
  have cn0 := cell_alloc (RN.out d (by omega)) hbB (.cells (madeCells #[.pointer none] (d + 1)) 29)
  have cn1 := cell_alloc (RN.out (d + 1) (by omega)) hbB (.cells (madeCells #[.pointer none] (d + 1)) 29)
  have hB1 : b < (w.alloc (.cells (madeCells #[.pointer none] (d + 1)) 29)).heap.size := by simp; omega
  have HNS := Lib.hid hns
  have HZS := Lib.hid hzs
  have HG := Lib.hid hk.1
  have HL := Lib.hid hl
  clear hns hzs hA hB hc hc2 hk hl
  have HK1 := Lib.hid K1
  have HB1 := Lib.hid B1
  have HN0 := Lib.hid cn0
  have HN1 := Lib.hid cn1
  clear K1 B1 cn0 cn1
  generalize hw1 : w.alloc (.cells (madeCells #[.pointer none] (d + 1)) 29) = w1 at O1 cz HK1 HB1 HN0 HN1 hB1 hmk
  go_enter Tryd.func7, Tryd.ntmps7
  go_wp2_with first | (go_at_call 9; refine (zzOp_any _ _).mono ?_; rintro e wz ⟨rfl, rfl⟩) | (go_at_call 10; refine Hid.out ?_)
  refine Lib.hid ?_
  refine (zzIdent_at b o (d + 2) capA _ d (nmOf ns d) _ (by go_num) (by omega) (by omega) HN0.out).mono ?_
  rintro e w2 ⟨rfl, rfl⟩
  go_wp2_with first | (go_at_call 9; refine (zzOp_any _ _).mono ?_; rintro e wz ⟨rfl, rfl⟩) | (go_at_call 10; refine Hid.out ?_)
  refine Lib.hid ?_
  refine (zzIdent_at b o (d + 2) capA _ (d + 1) (nmOf ns (d + 1)) _ (by first | omega | go_num) (by omega) (by omega) (cell_alloc HN1.out hB1 _)).mono ?_
  rintro e w3 ⟨rfl, rfl⟩
  go_wp2_with (at_builtin; refine Hid.out ?_)
  refine Lib.hid ?_
  have NF := newF w1 (zOf zs d) (nmOf ns d) (nmOf ns (d + 1)) (by have := HL.out d; omega) (by have := HL.out (d + 1); omega) HK1.out
  have ON := ((O1.out.alloc (.cells #[.string ⟨(nmOf ns d).toArray⟩, .int .i64 0] 43)).alloc (.cells #[.string ⟨(nmOf ns (d + 1)).toArray⟩, .int .i64 0] 43)).alloc (.cells #[.iface 35 (.pointer (some ⟨w1.heap.size, 0, none⟩)), .iface 35 (.pointer (some ⟨w1.heap.size + 1, 0, none⟩)), .int .i64 (opTk (zOf zs d) : Int), .int .i64 0] 41)
  have BN := ((HB1.out.alloc HB1.out.size (.cells #[.string ⟨(nmOf ns d).toArray⟩, .int .i64 0] 43)).alloc (by have := HB1.out.size; simp; omega) (.cells #[.string ⟨(nmOf ns (d + 1)).toArray⟩, .int .i64 0] 43)).alloc (by have := HB1.out.size; simp; omega) (.cells #[.iface 35 (.pointer (some ⟨w1.heap.size, 0, none⟩)), .iface 35 (.pointer (some ⟨w1.heap.size + 1, 0, none⟩)), .int .i64 (opTk (zOf zs d) : Int), .int .i64 0] 41)
  have zN : w1.heap.size + 1 + 1 + 1 = (((w1.alloc (.cells #[.string ⟨(nmOf ns d).toArray⟩, .int .i64 0] 43)).alloc (.cells #[.string ⟨(nmOf ns (d + 1)).toArray⟩, .int .i64 0] 43)).alloc (.cells #[.iface 35 (.pointer (some ⟨w1.heap.size, 0, none⟩)), .iface 35 (.pointer (some ⟨w1.heap.size + 1, 0, none⟩)), .int .i64 (opTk (zOf zs d) : Int), .int .i64 0] 41)).heap.size := by simp
  have KN := TokAt.below HK1.out HK1.out.1 ((((Below.refl w1.heap.size w1).alloc (Nat.le_refl _) (.cells #[.string ⟨(nmOf ns d).toArray⟩, .int .i64 0] 43)).alloc (by simp) (.cells #[.string ⟨(nmOf ns (d + 1)).toArray⟩, .int .i64 0] 43)).alloc (by simp; omega) (.cells #[.iface 35 (.pointer (some ⟨w1.heap.size, 0, none⟩)), .iface 35 (.pointer (some ⟨w1.heap.size + 1, 0, none⟩)), .int .i64 (opTk (zOf zs d) : Int), .int .i64 0] 41))
  rw [zN]
  clear zN
  generalize (((w1.alloc (.cells #[.string ⟨(nmOf ns d).toArray⟩, .int .i64 0] 43)).alloc (.cells #[.string ⟨(nmOf ns (d + 1)).toArray⟩, .int .i64 0] 43)).alloc (.cells #[.iface 35 (.pointer (some ⟨w1.heap.size, 0, none⟩)), .iface 35 (.pointer (some ⟨w1.heap.size + 1, 0, none⟩)), .int .i64 (opTk (zOf zs d) : Int), .int .i64 0] 41)) = w4 at NF ON BN KN ⊢
  generalize w1.heap.size + 1 + 1 = p4 at NF ⊢
  refine wp_app_node p4 rfl (.tmp 105) (.tmp 107) rfl w.heap.size _ 0 [] rfl ON rfl (by omega) BN.size HG.out ?_
  intro ao5 cp5 w5 hown5 hb5 ha5
  have O5 := Lib.hid hown5
  have B5 := Lib.hid (BN.trans hb5)
  have S5 := Lib.hid (NF.later ha5)
  have K5 := Lib.hid (ha5.1 KN)
  clear hown5 hb5 ha5 NF ON BN KN O1 HB1 HK1 HN0 HN1 cz hmk hw1 hB1
  go_wp2_with fail
  go_loopw [10, 19, 20] (fun v c i wr => ∃ (j : Nat) (t : Int) (ao : Option Addr) (cp p : Nat) (cs : List Value), 1 ≤ j ∧ j ≤ d + 1 ∧ t + j = d ∧ i = .int .i64 t ∧ v = .slice ao j cp ∧ c = .pointer (some ⟨p, 0, none⟩) ∧ cs.length + 1 = j ∧ wr.ownsRow w.heap.size 29 1 v j (cs ++ [.pointer (some ⟨p, 0, none⟩)]) ∧ Says 8 wr p (nodeR (nmOf ns) (osOf zs) (d + 1) j) ∧ TokAt wr ∧ Below w.heap.size w wr) (fun _ _ i _ => (intOf i + 1).toNat)
  case atStart => exact ⟨1, _, ao5, cp5, p4, [], Nat.le_refl _, by omega, by omega, rfl, rfl, rfl, rfl, O5.out, S5.out, K5.out, B5.out⟩
  case round =>
    obtain ⟨j, t, ao, cp, p, cs, hj1, hj2, ht, rfl, rfl, rfl, hcs, hown, hsay, hk, hbel⟩ := hrel
    have HT := Lib.hid ht
    have HCS := Lib.hid hcs
    have HO := Lib.hid hown
    have HSY := Lib.hid hsay
    have HK := Lib.hid hk
    have HBL := Lib.hid hbel
    clear O5 S5 K5 B5 hcs hown hsay hk hbel
    by_cases hlt : 0 ≤ t
    · obtain ⟨k, rfl⟩ : ∃ k : Nat, t = k := ⟨t.toNat, by omega⟩
      have hkd : k ≤ d := by omega
      have hkj : Hid (d + 1 - 1 - j = k) := Lib.hid (by omega)
      clear ht
      have cz := (HBL.out.cell (p := ⟨b2, o2 + k, none⟩) hbB2).trans (RZ.out k (by have := HZS.out; omega))
      have HCN := Lib.hid ((HBL.out.cell (p := ⟨b, o + k, none⟩) hbB).trans (RN.out k (by have := HNS.out; omega)))
      go_wp2_with first | (go_at_call 9; refine (zzOp_any _ _).mono ?_; rintro e wz ⟨rfl, rfl⟩) | (go_at_call 10; refine Hid.out ?_)
      refine Lib.hid ?_
      refine (zzIdent_at b o (d + 2) capA _ k (nmOf ns k) _ rfl (by omega) (by omega) HCN.out).mono ?_
      rintro e w3 ⟨rfl, rfl⟩
      go_wp2_with (at_builtin; refine Hid.out ?_)
      refine Lib.hid ?_
      have hnl := nodeR_len (nmOf ns) (osOf zs) (d + 1) HL.out (osOf_len zs) j
      have NF := newR wr p (zOf zs k) (nmOf ns k) (nodeR (nmOf ns) (osOf zs) (d + 1) j) (by have := HL.out k; omega) (by omega) HK.out HSY.out
      have ON := (HO.out.alloc (.cells #[.string ⟨(nmOf ns k).toArray⟩, .int .i64 0] 43)).alloc (.cells #[.iface 35 (.pointer (some ⟨wr.heap.size, 0, none⟩)), .iface 29 (.pointer (some ⟨p, 0, none⟩)), .int .i64 (opTk (zOf zs k) : Int), .int .i64 0] 41)
      have BN := (HBL.out.alloc HBL.out.size (.cells #[.string ⟨(nmOf ns k).toArray⟩, .int .i64 0] 43)).alloc (by have := HBL.out.size; simp; omega) (.cells #[.iface 35 (.pointer (some ⟨wr.heap.size, 0, none⟩)), .iface 29 (.pointer (some ⟨p, 0, none⟩)), .int .i64 (opTk (zOf zs k) : Int), .int .i64 0] 41)
      have zN : wr.heap.size + 1 + 1 = ((wr.alloc (.cells #[.string ⟨(nmOf ns k).toArray⟩, .int .i64 0] 43)).alloc (.cells #[.iface 35 (.pointer (some ⟨wr.heap.size, 0, none⟩)), .iface 29 (.pointer (some ⟨p, 0, none⟩)), .int .i64 (opTk (zOf zs k) : Int), .int .i64 0] 41)).heap.size := by simp
      have KN := TokAt.below HK.out HK.out.1 (((Below.refl wr.heap.size wr).alloc (Nat.le_refl _) (.cells #[.string ⟨(nmOf ns k).toArray⟩, .int .i64 0] 43)).alloc (by simp) (.cells #[.iface 35 (.pointer (some ⟨wr.heap.size, 0, none⟩)), .iface 29 (.pointer (some ⟨p, 0, none⟩)), .int .i64 (opTk (zOf zs k) : Int), .int .i64 0] 41))
      rw [zN]
      clear zN hnl
      generalize ((wr.alloc (.cells #[.string ⟨(nmOf ns k).toArray⟩, .int .i64 0] 43)).alloc (.cells #[.iface 35 (.pointer (some ⟨wr.heap.size, 0, none⟩)), .iface 29 (.pointer (some ⟨p, 0, none⟩)), .int .i64 (opTk (zOf zs k) : Int), .int .i64 0] 41)) = w4 at NF ON BN KN ⊢
      generalize wr.heap.size + 1 = p4 at NF ⊢
      refine wp_app_node p4 rfl (.tmp 133) (.tmp 135) rfl w.heap.size _ j _ rfl ON rfl (by omega) BN.size HG.out ?_
      intro ao5 cp5 w5 hown5 hb5 ha5
      have O5 := Lib.hid hown5
      have B5 := Lib.hid (BN.trans hb5)
      have S5 : Hid (Says 8 w5 p4 (nodeR (nmOf ns) (osOf zs) (d + 1) (j + 1))) := Lib.hid (by simp only [nodeR]; rw [hkj.out]; exact NF.later ha5)
      have K5 := Lib.hid (ha5.1 KN)
      clear hown5 hb5 ha5 NF ON BN KN cz
      go_wp2_with fail
      go_roundw
      case rel => exact ⟨j + 1, _, ao5, cp5, p4, cs ++ [.pointer (some ⟨p, 0, none⟩)], by omega, by have := HT.out; omega, by have := HT.out; omega, rfl, rfl, rfl, by have := HCS.out; simp; omega, O5.out, S5.out, K5.out, B5.out⟩
      case measure => first | (simp [intOf]; done) | (simp [intOf]; omega)
    · obtain rfl : t = -1 := by omega
      obtain rfl : j = d + 1 := by omega
      clear ht
      go_wp2_with fail
      go_ret
      exact ⟨ao, cp, p, cs, rfl, HCS.out, HO.out, HSY.out, HBL.out⟩
end Go.Proofs.YtpdfoofjnoegpaaDoor
