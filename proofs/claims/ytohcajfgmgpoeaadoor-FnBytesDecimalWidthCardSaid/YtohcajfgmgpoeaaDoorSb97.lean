/-
  One byte behind the buffer. Conditions: the text stays within MaxStringLen.
-/
import Derived.Test.YtohcajfgmgpoeaaDoorFmP
import Derived.Test.YtohcajfgmgpoeaaDoorSl
namespace Go.Proofs.YtohcajfgmgpoeaaDoor
open Go.RowKit
set_option maxRecDepth 100000
set_option linter.unusedVariables false

set_option maxHeartbeats 1000000 in
theorem bufByte_any (B g : Nat) (cs : Array Value) (v : Value) (buf : List UInt8) (z : Nat) (hz : z < 256) (w : World) (h : PB B g cs v buf w) (hl : buf.length + 4 ≤ 2147483647) :
    Calls Tryd.prog 25 #[.pointer (some ⟨g, 0, none⟩), .int .u8 (z : Int)] w (BufPost B g cs (buf ++ [UInt8.ofNat z]) w) := by
  obtain ⟨ao, cp, rfl, hcp, hmx⟩ := own_val h.own
  have c0 : w.cell? ⟨g, 0, none⟩ = some (.slice ao buf.length cp) := by rw [h.blk.cell, h.c0]
  have cm : w.cell? ⟨0, 0, none⟩ = some (.int .i64 2147483647) := h.max
  have hgt : decide ((buf.length : Int) ≥ 2147483647) = false := by simp; omega
  have H := Lib.hid h
  clear h
  obtain ⟨i0, hii, hy0, hy1, hy2⟩ := info_parts u8_info
  go_enter Tryd.func25, Tryd.ntmps25
  go_wp2_with fail
  go_quiet (fail)
  have h2 := H.out.drewN nq
  have B2 := Lib.hid (show Below B w (w.drewN nq) from ⟨rfl, rfl, rfl, Nat.le_refl _, fun _ _ => rfl⟩)
  have hc0 : (w.drewN nq).cell? ⟨g, 0, none⟩ = some (.slice ao buf.length cp) := c0
  clear c0 cm H
  generalize w.drewN nq = w2 at h2 B2 hc0 ⊢
  have s2 : Src Tryd.prog 1 32 (.slice (some ⟨w2.heap.size, 0, none⟩) 1 1) 1 (u8c [UInt8.ofNat z]) (w2.alloc (.cells #[.int .u8 (z : Int)] 5)) :=
    src_oneT Tryd.underlying32 (z := z) hz (t0 := 5) (Blk.new w2 _ _)
  have h3 := h2.alloc (.cells #[.int .u8 (z : Int)] 5)
  have O2 := Lib.hid h3.own
  have S2 := Lib.hid s2
  have Z2 := Lib.hid h3.size
  have B3 := Lib.hid (B2.out.alloc h2.size (.cells #[.int .u8 (z : Int)] 5))
  have H3 := Lib.hid h3
  clear h2 h3 s2 B2
  go_wp2_with (at_builtin; (
     refine wpList_append_own_src rfl (.tmp 14) (.tmp 16) 32 32 rfl B 5 i0 (.int .u8 0) 1 1 Tryd.underlying32 hii hy0 hy1 hy2 rfl (by decide) (.slice ao buf.length cp) buf.length (u8c buf) rfl O2.out (.slice (some ⟨w2.heap.size, 0, none⟩) 1 1) 1 (u8c [UInt8.ofNat z]) rfl S2.out (by simp only [maxLen]; omega) (by omega) Z2.out ?_
     intro v' w4 hown4 hgrow4 _
     obtain ⟨ao4, cp4, rfl, _, _⟩ := own_val hown4
     obtain ⟨hp4, hb4, hk4⟩ := H3.out.grow hgrow4 hown4
     have f4 := hk4.free 0
     have c4 : w4.cell? ⟨g, 0, none⟩ = some (.slice ao buf.length cp) := by rw [hk4.cell, H3.out.c0]
     have H4 := Lib.hid hp4
     have B4 := Lib.hid (B3.out.trans hb4)
     clear hp4 hb4 hk4 hown4 hgrow4 hc0
     refine Hid.out ?_))
  refine Lib.hid ?_
  go_wp2
  go_end0
  exact ⟨_, rfl, H4.out, B4.out⟩
def SBPost (B g : Nat) (fl : Fl) (l : List UInt8) (w : World) (e : Ending) (w' : World) : Prop :=
  ∃ v', e = .returned (.tuple #[.int .i64 1, .nilIface]) ∧ PF B g fl v' l w' ∧ Below B w w'
theorem ppByte_any (B g : Nat) (fl : Fl) (v : Value) (buf : List UInt8) (z : Nat) (hz : z < 256) (w : World) (h : PF B g fl v buf w) (hl : buf.length + 4 ≤ 2147483647) :
    Calls Tryd.prog 18 #[.pointer (some ⟨g, 0, none⟩), .int .u8 (z : Int)] w (SBPost B g fl (buf ++ [UInt8.ofNat z]) w) := by
  obtain ⟨cs, h1, h2⟩ := h
  have HC := Lib.hid (bufByte_any B g cs v buf z hz w h1 hl)
  have HF := Lib.hid h2
  clear h1 h2
  go_enter Tryd.func18, Tryd.ntmps18
  go_wp2_with fail
  refine HC.out.mono ?_
  rintro e w2 ⟨v', rfl, hp, hb⟩
  have H := Lib.hid (And.intro hp hb)
  clear hp hb
  go_wp2_with fail
  go_ret2
  exact ⟨v', rfl, ⟨_, H.out.1, HF.out.put0 0 _ (Or.inl rfl)⟩, H.out.2⟩
end Go.Proofs.YtohcajfgmgpoeaaDoor
