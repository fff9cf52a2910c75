/-
  The buffer's Write. Conditions: the text stays within MaxStringLen.
-/
import Derived.Test.YtohcajfgmgpoeaaDoorPP
namespace Go.Proofs.YtohcajfgmgpoeaaDoor
open Go.RowKit
set_option maxRecDepth 100000
set_option linter.unusedVariables false

set_option maxHeartbeats 1000000 in
theorem bufWrite_any (B g : Nat) (cs : Array Value) (v : Value) (buf : List UInt8) (D : Nat) (oA : Option Addr) (cap : Nat) (l : List UInt8) (w : World) (h : PB B g cs v buf w) (hs : SrcAt w D oA l) (hl : buf.length + l.length ≤ 2147483647) :
    Calls Tryd.prog 35 #[.pointer (some ⟨g, 0, none⟩), .slice oA l.length cap] w (BufPost B g cs (buf ++ l) w) := by
  obtain ⟨ao, cp, rfl, hcp, hmx⟩ := own_val h.own
  have c0 : w.cell? ⟨g, 0, none⟩ = some (.slice ao buf.length cp) := by rw [h.blk.cell, h.c0]
  have cm : w.cell? ⟨0, 0, none⟩ = some (.int .i64 2147483647) := h.max
  have hgt : decide ((buf.length : Int) + (l.length : Int) > 2147483647) = false := by simp; omega
  have H := Lib.hid h
  have HS := Lib.hid hs
  clear h hs
  obtain ⟨i0, hii, hy0, hy1, hy2⟩ := info_parts u8_info
  go_enter Tryd.func35, Tryd.ntmps35
  go_wp2_with fail
  go_quiet (fail)
  have h2 := H.out.drewN nq
  have s2 : SrcAt (w.drewN nq) D oA l := HS.out.keep (fun _ _ => rfl)
  have B2 := Lib.hid (show Below B w (w.drewN nq) from ⟨rfl, rfl, rfl, Nat.le_refl _, fun _ _ => rfl⟩)
  have hc0 : (w.drewN nq).cell? ⟨g, 0, none⟩ = some (.slice ao buf.length cp) := c0
  clear c0 cm H HS
  generalize w.drewN nq = w2 at h2 s2 B2 hc0 ⊢
  have O2 := Lib.hid h2.own
  have S2 := Lib.hid (src_bytes (cap := cap) Tryd.underlying22 s2)
  have Z2 := Lib.hid h2.size
  have H2 := Lib.hid h2
  clear h2 s2
  go_wp2_with (at_builtin; (
     refine wpList_append_own_src rfl (.tmp 17) (.tmp 18) 32 22 rfl B 5 i0 (.int .u8 0) 1 1 Tryd.underlying32 hii hy0 hy1 hy2 rfl (by decide) (.slice ao buf.length cp) buf.length (u8c buf) rfl O2.out (.slice oA l.length cap) l.length (u8c l) rfl S2.out (by simp only [maxLen]; omega) (by omega) Z2.out ?_
     intro v' w3 hown3 hgrow3 hiff3
     obtain ⟨ao3, cp3, rfl, _, _⟩ := own_val hown3
     obtain ⟨hp3, hb3, hk3⟩ := H2.out.grow hgrow3 hown3
     have f3 := hk3.free 0
     have c3 : w3.cell? ⟨g, 0, none⟩ = some (.slice ao buf.length cp) := by rw [hk3.cell, H2.out.c0]
     have H3 := Lib.hid hp3
     have B3 := Lib.hid hb3
     clear hp3 hb3 hk3 hown3 hgrow3 hiff3 hc0
     refine Hid.out ?_))
  refine Lib.hid ?_
  go_wp2

  go_end0
  exact ⟨_, rfl, H3.out, B2.out.trans B3.out⟩
end Go.Proofs.YtohcajfgmgpoeaaDoor
