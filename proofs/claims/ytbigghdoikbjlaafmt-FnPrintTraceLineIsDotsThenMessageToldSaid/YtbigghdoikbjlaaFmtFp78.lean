/-
  fmt.Fprint and fmt.Fprintln of strings into a bytes.Buffer. Conditions: fmt is told by the kit's own function; the buffer is the call's own.
-/
import Derived.Test.YtbigghdoikbjlaaFmtSpr78
import Derived.Test.YtbigghdoikbjlaaFmtAppW
import Derived.Test.YtbigghdoikbjlaaFmtShelf
namespace Go.Proofs.YtbigghdoikbjlaaFmt
open Go.RowKit
open Go.Extern.Stop Go.Stop Go.Extern
set_option maxRecDepth 100000
set_option linter.unusedVariables false

/-- the buffer holds these bytes -/
def IsB (B b : Nat) (l : List UInt8) (w : World) : Prop := Lib.IsBuffer 31 5 B b (u8c l) w
theorem IsB.keepAll {B b : Nat} {l : List UInt8} {w w' : World} (h : IsB B b l w) (hb : Below w.heap.size w w') : IsB B b l w' := by
  obtain ⟨h1, v, lr, h2, h3, h4⟩ := h
  have hl : b < w.heap.size := Blk.lt (t := 31) h2
  exact ⟨h1, v, lr, (hb.block b hl).trans h2, own_keep0 h3 (fun k hk => hb.block k ((h3.lt k hk.symm).2)), h4⟩
theorem IsB.lt {B b : Nat} {l : List UInt8} {w : World} (h : IsB B b l w) : b < w.heap.size := by
  obtain ⟨h1, v, lr, h2, h3, h4⟩ := h
  exact Blk.lt (t := 31) h2
theorem conv_any (s : List UInt8) : ∃ (capf : World → Nat) (Cf : World → Obj), (∀ W : World, (convert 9 27 (.string ⟨s.toArray⟩)).run Tryf.prog W = .ok (.slice (some ⟨W.heap.size, 0, none⟩) s.length (capf W)) (W.drew.alloc (Cf W))) ∧
    (∀ (W : World) (j : Nat) (v : Value), (u8c s)[j]? = some v → (W.drew.alloc (Cf W)).cell? ((⟨W.heap.size, 0, none⟩ : Addr).add j) = some v) := by
  have hsz : (⟨s.toArray⟩ : ByteArray).size = s.length := by simp [ByteArray.size]
  refine ⟨fun W => grownCap W s.length 0 5, fun W => .cells (bytesRow ⟨s.toArray⟩ (grownCap W s.length 0 5)) 5 ((bytesRow ⟨s.toArray⟩ (grownCap W s.length 0 5)).size, (bytesRow ⟨s.toArray⟩ (grownCap W s.length 0 5)).size + 1), fun W => ?_, fun W j v hv => ?_⟩
  · have := run_bytes_of_string (P := Tryf.prog) W 9 27 5 ⟨s.toArray⟩ Tryf.underlying9 Tryf.underlying27 Tryf.underlying5
    rw [hsz] at this
    exact this
  · have hnew : (W.drew.alloc (.cells (bytesRow ⟨s.toArray⟩ (grownCap W s.length 0 5)) 5 ((bytesRow ⟨s.toArray⟩ (grownCap W s.length 0 5)).size, (bytesRow ⟨s.toArray⟩ (grownCap W s.length 0 5)).size + 1))).heap[W.heap.size]? = some (.cells (bytesRow ⟨s.toArray⟩ (grownCap W s.length 0 5)) 5 ((bytesRow ⟨s.toArray⟩ (grownCap W s.length 0 5)).size, (bytesRow ⟨s.toArray⟩ (grownCap W s.length 0 5)).size + 1)) := heap_alloc_new W.drew _
    have hj : j < s.length := by
      rcases Nat.lt_or_ge j (u8c s).length with h | h
      · simpa [u8c] using h
      · rw [List.getElem?_eq_none h] at hv
        cases hv
    have ea : (⟨W.heap.size, 0, none⟩ : Addr).add j = ⟨W.heap.size, j, none⟩ := by unfold Addr.add; split <;> simp_all
    rw [ea]
    unfold World.cell?
    simp only [hnew]
    unfold bytesRow
    rw [Array.getElem?_append_left (by simp; exact hj)]
    rw [← hv]
    simp [u8c]
theorem nil_ahead (a : Addr) (w : World) : (nilAhead 257 33 (.pointer (some a)) "Write").run Tryf.prog w = .ok (some false) w := by kernel_rfl
theorem method_wr (a : Addr) (w : World) : (method 257 33 (.pointer (some a)) "Write").run Tryf.prog w = .ok (33, .pointer (some a)) w := by kernel_rfl
def WrPost (B b n : Nat) (l : List UInt8) (w : World) (e : Ending) (w' : World) : Prop :=
  e = .returned (.tuple #[.int .i64 (n : Int), .nilIface]) ∧ IsB B b l w' ∧ Below B w w' ∧ Lib.OthersKept 5 (some b) w w'
theorem write_any (B b : Nat) (l s : List UInt8) (a : Addr) (c : Nat) (w : World) (h : IsB B b l w) (hBw : B ≤ w.heap.size) (hab : a.block ≠ b) (hsrc : ∀ (j : Nat) (v : Value), (u8c s)[j]? = some v → w.cell? (a.add j) = some v) (hlim : l.length + s.length ≤ 140737488355328) :
    Calls Tryf.prog 33 #[.pointer (some ⟨b, 0, none⟩), .slice (some a) s.length c] w (WrPost B b s.length (l ++ s) w) := by
  refine (Tryf.Buffer_Write_any B b (u8c l) (u8c s) a s.length c w h hBw (u8c_one l) (u8c_len s) hab hsrc (u8c_one s) (by rw [u8c_len]; exact hlim)).mono ?_
  rintro e w' ⟨h1, h2, h3, h4⟩
  refine ⟨h1, ?_, h3, h4⟩
  unfold IsB
  rw [u8c_app]
  exact h2
set_option maxHeartbeats 2000000 in
theorem fprint1 (I : Interp) (B b g : Nat) (l s : List UInt8) (w : World) (hF : I.told.answers w.tape) (hb : IsB B b l w) (hB : B ≤ w.heap.size) (hs : s.length < 2 ^ 40) (hl : l.length < 2 ^ 40) (hc : w.cell? ⟨g, 0, none⟩ = some (.iface 9 (.string ⟨s.toArray⟩))) :
    Calls Tryf.prog 12 #[.iface 33 (.pointer (some ⟨b, 0, none⟩)), .slice (some ⟨g, 0, none⟩) 1 1] w (WrPost B b s.length (l ++ s) w) := by
  have hS := sprint1 I g s w hF (by omega) hc
  obtain ⟨capf, Cf, hcv, hcell⟩ := conv_any s
  have hna := nil_ahead
  have hme := method_wr
  have hb0 : Below w.heap.size w (w.drew.drew.alloc (Cf w.drew)) := (((Below.refl _ w).drew).drew).alloc (Nat.le_refl _) _
  have HW := Lib.hid (write_any B b l s ⟨w.drew.heap.size, 0, none⟩ (capf w.drew) (w.drew.drew.alloc (Cf w.drew)) (hb.keepAll hb0) (by have := hb0.size; omega) (by have := hb.lt; show w.heap.size ≠ b; omega) (fun j v hv => hcell w.drew j v hv) (by omega))
  have HB := Lib.hid (hb0.mono hB)
  have HO : Hid (Lib.OthersKept 5 (some b) w (w.drew.drew.alloc (Cf w.drew))) := Lib.hid ((((Lib.OthersKept.refl _ _ w).drew).drew).alloc _)
  clear hb hc hb0 hcell hF
  go_enter Tryf.func12, Tryf.ntmps12
  go_wp2_with fail
  refine HW.out.mono ?_
  rintro e w2 ⟨rfl, h2, h3, h4⟩
  have H2 := Lib.hid (And.intro h2 (And.intro (HB.out.trans h3) (HO.out.trans h4)))
  clear h2 h3 h4 HW HB HO
  go_wp2_with fail
  go_ret2
  exact ⟨rfl, H2.out.1, H2.out.2.1, H2.out.2.2⟩
def lnArgs (g : Nat) (T : List UInt8) (n : Nat) (save : Array Value) (w : World) : Prop :=
  (callFunc 15 #[.slice (some ⟨g, 0, none⟩) n n]).run Tryf.prog w = .ok (.row FmtCalls.turnsRow save) w ∧ (FmtCalls.begun #[] #[] save).run Tryf.prog w = .ok (.value (.string ⟨T.toArray⟩)) w.drew
set_option maxHeartbeats 2000000 in
theorem fprintln (B b g n : Nat) (l s : List UInt8) (save : Array Value) (w : World) (hln : lnArgs g s n save w) (hb : IsB B b l w) (hB : B ≤ w.heap.size) (hs : s.length < 2 ^ 40) (hl : l.length < 2 ^ 40) :
    Calls Tryf.prog 13 #[.iface 33 (.pointer (some ⟨b, 0, none⟩)), .slice (some ⟨g, 0, none⟩) n n] w (WrPost B b s.length (l ++ s) w) := by
  obtain ⟨hS, hT⟩ := hln
  have HT := Lib.hid hT
  clear hT
  obtain ⟨capf, Cf, hcv, hcell⟩ := conv_any s
  have hna := nil_ahead
  have hme := method_wr
  have hb0 : Below w.heap.size w (w.drew.drew.alloc (Cf w.drew)) := (((Below.refl _ w).drew).drew).alloc (Nat.le_refl _) _
  have HW := Lib.hid (write_any B b l s ⟨w.drew.heap.size, 0, none⟩ (capf w.drew) (w.drew.drew.alloc (Cf w.drew)) (hb.keepAll hb0) (by have := hb0.size; omega) (by have := hb.lt; show w.heap.size ≠ b; omega) (fun j v hv => hcell w.drew j v hv) (by omega))
  have HB := Lib.hid (hb0.mono hB)
  have HO : Hid (Lib.OthersKept 5 (some b) w (w.drew.drew.alloc (Cf w.drew))) := Lib.hid ((((Lib.OthersKept.refl _ _ w).drew).drew).alloc _)
  clear hb hb0 hcell
  go_enter Tryf.func13, Tryf.ntmps13
  go_wp2_with fail
  apply rows_value next_turns
  case hr => exact HT.out
  case h =>
    go_wp2_with fail
    refine HW.out.mono ?_
    rintro e w2 ⟨rfl, h2, h3, h4⟩
    have H2 := Lib.hid (And.intro h2 (And.intro (HB.out.trans h3) (HO.out.trans h4)))
    clear h2 h3 h4 HW HB HO
    go_wp2_with fail
    go_ret2
    exact ⟨rfl, H2.out.1, H2.out.2.1, H2.out.2.2⟩
end Go.Proofs.YtbigghdoikbjlaaFmt
