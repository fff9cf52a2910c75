/-
  The law's own text with a leading byte. Conditions: at most 2^20 bytes.
-/
import Derived.Test.YtioikpfebdnndaaFmtSlG
import Derived.Test.YtioikpfebdnndaaFmtMk114
namespace Go.Proofs.YtioikpfebdnndaaFmt
open Go.RowKit
set_option maxRecDepth 100000
set_option linter.unusedVariables false

def LeadPost (c : Nat) (l : List UInt8) (w : World) (e : Ending) (w' : World) : Prop :=
  ∃ g cp, e = .returned (.slice (some ⟨g, 0, none⟩) (l.length + 1) cp) ∧ l.length + 1 ≤ cp ∧ SrcAt w' w'.heap.size (some ⟨g, 0, none⟩) (UInt8.ofNat c :: l) ∧ Below w.heap.size w w'
set_option maxHeartbeats 2000000 in
theorem lead_any (c : Nat) (hc : c < 256) (oA : Option Addr) (cap : Nat) (l : List UInt8) (w : World) (hsrc : SrcAt w w.heap.size oA l) (hn : l.length ≤ 1000000) :
    Calls Tryf.prog 8 #[.int .u8 (c : Int), .slice oA l.length cap] w (LeadPost c l w) := by
  obtain ⟨i0, hii, hy0, hy1, hy2⟩ := info_parts u8_info
  have ht := fun W => mk0 (l.length + 1) (by omega) W
  simp only [Int.natCast_add, Int.cast_ofNat_Int] at ht
  have hw1 := Blk.new w 5 (madeCells #[.int .u8 0] (l.length + 1))
  have ho1 := own0 (B := w.heap.size) hw1 (Nat.le_refl _) (by omega)
  have hb1 := (Below.refl w.heap.size w).alloc (Nat.le_refl _) (.cells (madeCells #[.int .u8 0] (l.length + 1)) 5)
  have hz1 : w.heap.size ≤ (w.alloc (.cells (madeCells #[.int .u8 0] (l.length + 1)) 5)).heap.size := by simp
  have hsz : (w.alloc (.cells (madeCells #[.int .u8 0] (l.length + 1)) 5)).heap.size = w.heap.size + 1 := by simp
  have HSZ := Lib.hid hsz
  have HR := Lib.hid hsrc
  clear hsrc hsz
  go_enter Tryf.func8, Tryf.ntmps8
  go_wp2_with (at_builtin; refine Hid.out ?_)
  clear ht
  generalize (w.alloc (.cells (madeCells #[.int .u8 0] (l.length + 1)) 5)) = w1 at hw1 ho1 hb1 hz1 HSZ ⊢
  have hbk := Blk.new w1 5 #[.int .u8 (c : Int)]
  rw [HSZ.out] at hbk
  refine Lib.hid ?_
  refine wpList_append_own_src rfl (.tmp 10) (.tmp 12) 22 22 rfl w.heap.size 5 i0 (.int .u8 0) 1 1 Tryf.underlying22 hii hy0 hy1 hy2 rfl (by decide) _ 0 (u8c []) rfl (ho1.alloc _) _ 1 (u8c [UInt8.ofNat c]) rfl (src_one hc hbk) (by simp [maxLen]) (by omega) (by simp; omega) ?_
  intro v2 w2 hown2 hgrow2 _
  have hb2 := (hb1.alloc hz1 (.cells #[.int .u8 (c : Int)] 5)).trans (own_grow (ho1.alloc _) (by simp; omega) hgrow2)
  obtain ⟨g2, cp2, rfl, hg2⟩ := own_shape8 hown2 (by omega)
  have O2 : Hid (w2.ownsRow w.heap.size 5 1 (.slice (some ⟨g2, 0, none⟩) (0 + 1) cp2) 1 (u8c [UInt8.ofNat c])) := Lib.hid hown2
  have B2 := Lib.hid hb2
  clear hown2 hgrow2 hb2 hw1 ho1 hb1 hz1 hbk HSZ
  go_wp2_with (at_builtin; refine Hid.out ?_)
  refine Lib.hid ?_
  refine wpList_append_own_src rfl (.tmp 14) (.tmp 15) 22 22 rfl w.heap.size 5 i0 (.int .u8 0) 1 1 Tryf.underlying22 hii hy0 hy1 hy2 rfl (by decide) _ 1 (u8c [UInt8.ofNat c]) rfl O2.out _ l.length (u8c l) rfl (src_bytes (cap := cap) Tryf.underlying22 (HR.out.keep B2.out.block)) (by simp only [maxLen]; omega) (by omega) B2.out.size ?_
  intro v3 w3 hown3 hgrow3 _
  have hb3 := B2.out.trans (own_grow O2.out B2.out.size hgrow3)
  obtain ⟨g3, cp3, rfl, hg3⟩ := own_shape8 hown3 (by omega)
  have hc3 := own_cap hown3
  have ho3 : w3.ownsRow w.heap.size 5 1 (.slice (some ⟨g3, 0, none⟩) (1 + l.length) cp3) (UInt8.ofNat c :: l).length (u8c (UInt8.ofNat c :: l)) := by
    have := hown3
    rw [← u8c_app] at this
    rw [List.length_cons, Nat.add_comm l.length 1]
    exact this
  have S3 := Lib.hid (own_srcAt ho3)
  have B3 := Lib.hid hb3
  clear hown3 hgrow3 hb3 O2 B2 ho3 HR
  rw [Nat.add_comm 1 l.length] at *
  go_wp2_with fail
  go_ret
  exact ⟨g3, cp3, rfl, by omega, S3.out, B3.out⟩
end Go.Proofs.YtioikpfebdnndaaFmt
