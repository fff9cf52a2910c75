/-
  append onto an owned row of bytes, in short forms. No conditions.
-/
import Derived.Test.YtohcajfgmgpoeaaDoorSl
namespace Go.Proofs.YtohcajfgmgpoeaaDoor
open Go.RowKit
set_option maxRecDepth 100000
set_option linter.unusedVariables false

/-- the value v owns a row of the n bytes of l, from block B on -/
def OwnB (w : World) (B : Nat) (v : Value) (n : Nat) (l : List UInt8) : Prop := w.ownsRow B 5 1 v n (u8c l)
theorem OwnB.len {w : World} {B : Nat} {v : Value} {n : Nat} {l : List UInt8} (h : OwnB w B v n l) : l.length = n := by
  have := h.1
  rw [u8c_len] at this
  omega
theorem OwnB.alloc {w : World} {B : Nat} {v : Value} {n : Nat} {l : List UInt8} (h : OwnB w B v n l) (o : Obj) : OwnB (w.alloc o) B v n l := World.ownsRow.alloc h o
theorem OwnB.qt {w w' : World} {B : Nat} {v : Value} {n : Nat} {l : List UInt8} (h : OwnB w B v n l) (hq : Qt w w') : OwnB w' B v n l := hq.own h
/-- a row of another block is left alone by whatever leaves all old blocks alone -/
theorem OwnB.below {w w' : World} {B : Nat} {v : Value} {n : Nat} {l : List UInt8} (h : OwnB w B v n l) (hb : Below w.heap.size w w') : OwnB w' B v n l :=
  own_keep0 h (fun k hk => hb.block k (by
    rcases h.2 with ⟨rfl, _⟩ | ⟨g, cap, cur, rfl, _, hh, _⟩
    · simp [Value.ownBlock] at hk
    · have : k = g := by simpa [Value.ownBlock] using hk
      subst this
      exact Blk.lt (t := 5) hh))
theorem OwnB.src {w : World} {B n cp : Nat} {ao : Option Addr} {l : List UInt8} (h : OwnB w B (.slice ao n cp) n l) : SrcAt w w.heap.size ao l := by
  obtain rfl := h.len
  exact own_srcAt h
theorem OwnB.val {w : World} {B n : Nat} {v : Value} {l : List UInt8} (h : OwnB w B v n l) : ∃ ao cp, v = .slice ao n cp ∧ n ≤ cp ∧ cp ≤ maxLen := own_val0 h
theorem OwnB.new {w : World} {B k : Nat} (hB : B ≤ w.heap.size) (hk : k ≤ 1048576) : OwnB (w.alloc (.cells (madeCells #[.int .u8 0] k) 5)) B (.slice (some ⟨w.heap.size, 0, none⟩) 0 k) 0 [] :=
  own0 (Blk.new w 5 (madeCells #[.int .u8 0] k)) hB hk
theorem OwnB.nil (w : World) (B : Nat) : OwnB w B (.slice none 0 0) 0 [] := World.ownsRow_nil w B _ _
/-- its text -/
theorem OwnB.txt {w : World} {B n cp : Nat} {ao : Option Addr} {l : List UInt8} (h : OwnB w B (.slice ao n cp) n l) : (convert 22 9 (.slice ao n cp)).run Tryd.prog w = .ok (.string ⟨l.toArray⟩) w := by
  obtain rfl := h.len
  exact run_txtAt cp (own_srcAt h)

theorem wp_app {w : World} {ops : Array Oper} {rest : List Oper} {o : Oper} {a : Act} {Q : Exit → Act → World → Prop} (hgd : o.guard = none) (s x : Operand) (tx : TypeId)
    (ho : o.op = .call { callee := .builtin .append, args := #[s, x], argTypes := #[22, tx] })
    (B : Nat) (v : Value) (n : Nat) (l : List UInt8) (hs : a.eval s = v) (hown : OwnB w B v n l) (xv : Value) (m : Nat) (t : List UInt8) (hx : a.eval x = xv) (hsrc : Src Tryd.prog 1 tx xv m (u8c t) w)
    (hlen : n + m ≤ 4294967296) (hB : B ≤ w.heap.size)
    (h : ∀ ao cp w', n + m ≤ cp → OwnB w' B (.slice ao (n + m) cp) (n + m) (l ++ t) → Below B w w' → w.grownBy w' v.ownBlock → wpList Tryd.prog ops Q rest (a.put o.dst (.slice ao (n + m) cp)) w') : wpList Tryd.prog ops Q (o :: rest) a w := by
  obtain ⟨i0, hii, hy0, hy1, hy2⟩ := info_parts u8_info
  refine wpList_append_own_src hgd s x 22 tx ho B 5 i0 (.int .u8 0) 1 1 Tryd.underlying22 hii hy0 hy1 hy2 rfl (by decide) v n (u8c l) hs hown xv m (u8c t) hx hsrc (by simp only [maxLen]; omega) (by omega) hB ?_
  intro v2 w2 hown2 hgrow2 _
  obtain ⟨ao, cp, rfl, h1, _⟩ := own_val0 hown2
  exact h ao cp w2 h1 (by unfold OwnB; rw [u8c_app]; exact hown2) (own_grow hown hB hgrow2) hgrow2
/-- append(out, s...) of a string -/
theorem wp_app_str {w : World} {ops : Array Oper} {rest : List Oper} {o : Oper} {a : Act} {Q : Exit → Act → World → Prop} (hgd : o.guard = none) (s x : Operand)
    (ho : o.op = .call { callee := .builtin .append, args := #[s, x], argTypes := #[22, 9] })
    (B : Nat) (v : Value) (n : Nat) (l : List UInt8) (hs : a.eval s = v) (hown : OwnB w B v n l) (t : List UInt8) (hx : a.eval x = .string ⟨t.toArray⟩)
    (hlen : n + t.length ≤ 4294967296) (hB : B ≤ w.heap.size)
    (h : ∀ ao k cp w', k ≤ n + t.length → OwnB w' B (.slice ao k cp) k (l ++ t) → Below B w w' → wpList Tryd.prog ops Q rest (a.put o.dst (.slice ao k cp)) w') : wpList Tryd.prog ops Q (o :: rest) a w :=
  wp_app hgd s x 9 ho B v n l hs hown (.string ⟨t.toArray⟩) t.length t hx (src_str Tryd.underlying9 t) hlen hB (fun ao cp w' _ h1 h2 _ => h ao _ cp w' (Nat.le_refl _) h1 h2)
/-- append(out, z) of one byte -/
theorem wp_app_one {w : World} {ops : Array Oper} {rest : List Oper} {o : Oper} {a : Act} {Q : Exit → Act → World → Prop} (z : Nat) (hz : z < 256) (hgd : o.guard = none) (s x : Operand)
    (ho : o.op = .call { callee := .builtin .append, args := #[s, x], argTypes := #[22, 22] })
    (B : Nat) (v : Value) (n : Nat) (l : List UInt8) (hs : a.eval s = v) (hown : OwnB w B v n l) (hx : a.eval x = .slice (some ⟨w.heap.size, 0, none⟩) 1 1)
    (hlen : n + 1 ≤ 4294967296) (hB : B ≤ w.heap.size)
    (h : ∀ ao k cp w', k ≤ n + 1 → OwnB w' B (.slice ao k cp) k (l ++ [UInt8.ofNat z]) → Below B w w' → wpList Tryd.prog ops Q rest (a.put o.dst (.slice ao k cp)) w') : wpList Tryd.prog ops Q (o :: rest) a (w.alloc (.cells #[.int .u8 (z : Int)] 5)) :=
  wp_app hgd s x 22 ho B v n l hs (hown.alloc _) (.slice (some ⟨w.heap.size, 0, none⟩) 1 1) 1 [UInt8.ofNat z] hx (src_one hz (Blk.new w 5 #[.int .u8 (z : Int)])) hlen (by simp; omega) (fun ao cp w' _ h1 h2 _ => h ao _ cp w' (Nat.le_refl _) h1 (((Below.refl B w).alloc hB _).trans h2))
end Go.Proofs.YtohcajfgmgpoeaaDoor
