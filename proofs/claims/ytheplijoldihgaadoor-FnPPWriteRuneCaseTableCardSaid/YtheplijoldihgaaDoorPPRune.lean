/-
  The buffer's WriteRune. Conditions: the text stays within MaxStringLen.
-/
import Derived.Test.YtheplijoldihgaaDoorPP
import Derived.Test.YtheplijoldihgaaDoorSl
import Derived.Test.YtheplijoldihgaaDoorShelf
namespace Go.Proofs.YtheplijoldihgaaDoor
open Go.RowKit
set_option maxRecDepth 100000
set_option linter.unusedVariables false

/-- what WriteRune appends -/
def encR (r : Int) : List UInt8 := if r < 128 then [UInt8.ofNat (r % 256).toNat] else Lib.encodeRune r
theorem enc_cells (r : Int) : Lib.runeCells r = u8c (Lib.encodeRune r) := by
  unfold Lib.runeCells u8c Lib.encodeRune
  rw [List.map_map]
  apply List.map_congr_left
  intro x hx
  have := Lib.encodeRuneZ_byte r x hx
  have e : ((x.toNat.toUInt8).toNat : Int) = x := by
    rw [Nat.toUInt8, UInt8.toNat_ofNat']
    omega
  simp only [Function.comp]
  rw [e]
theorem enc_len (r : Int) : (Lib.runeCells r).length = (Lib.encodeRune r).length := by rw [enc_cells, u8c_len]
theorem enc_len4 (r : Int) : 1 ≤ (Lib.encodeRune r).length ∧ (Lib.encodeRune r).length ≤ 4 := by
  have := Lib.encodeRuneZ_length r
  unfold Lib.encodeRune
  rw [List.length_map]
  exact this

theorem el_fb : Tryd.prog.elem 35 = 5 := by kernel_rfl

set_option maxHeartbeats 2000000 in
theorem bufRune_small (B g : Nat) (cs : Array Value) (v : Value) (buf : List UInt8) (r : Int) (w : World) (h : PB B g cs v buf w) (hlo : -2147483648 ≤ r) (hr : r < 128) (hl : buf.length + 4 ≤ 2147483647) :
    Calls Tryd.prog 11 #[.pointer (some ⟨g, 0, none⟩), .int .i32 r] w (BufPost B g cs (buf ++ [UInt8.ofNat (r % 256).toNat]) w) := by
  obtain ⟨ao, cp, rfl, hcp, hmx⟩ := own_val h.own
  have c0 : w.cell? ⟨g, 0, none⟩ = some (.slice ao buf.length cp) := by rw [h.blk.cell, h.c0]
  have cm : w.cell? ⟨0, 0, none⟩ = some (.int .i64 2147483647) := h.max
  have hrl : -1 ≤ Lib.runeLen r ∧ Lib.runeLen r ≤ 4 := by unfold Lib.runeLen; omega
  have hgt : decide ((buf.length : Int) + Lib.runeLen r > 2147483647) = false := by simp; omega
  have ew : IntKind.i64.wrap ((buf.length : Int) + Lib.runeLen r) = (buf.length : Int) + Lib.runeLen r := IntWalk.i64_in _ (by omega)
  have tr : decide (r < 128) = true := by simpa using hr
  have H := Lib.hid h
  have HR := fun n => Tryd.utf8_RuneLen r (w.drewN n)
  generalize Lib.runeLen r = rl at *
  clear h
  obtain ⟨i0, hii, hy0, hy1, hy2⟩ := info_parts u8_info
  go_enter Tryd.func11, Tryd.ntmps11
  go_wp2_with fail
  go_quiet ((go_at_call 12; exact Calls.quiet_of_same (HR _)))
  have h2 := H.out.drewN nq
  have B2 := Lib.hid (show Below B w (w.drewN nq) from ⟨rfl, rfl, rfl, Nat.le_refl _, fun _ _ => rfl⟩)
  have hc0 : (w.drewN nq).cell? ⟨g, 0, none⟩ = some (.slice ao buf.length cp) := c0
  clear c0 cm H HR ew
  generalize w.drewN nq = w2 at h2 B2 hc0 ⊢
  have hz : (r % 256) = (((r % 256).toNat : Nat) : Int) := by omega
  have s2 : Src Tryd.prog 1 35 (.slice (some ⟨w2.heap.size, 0, none⟩) 1 1) 1 (u8c [UInt8.ofNat (r % 256).toNat]) (w2.alloc (.cells #[.int .u8 (r % 256)] 5)) := by
    refine src_oneT Tryd.underlying35 (z := (r % 256).toNat) (by omega) (t0 := 5) ?_
    rw [← hz]
    exact Blk.new w2 _ _
  have h3 := h2.alloc (.cells #[.int .u8 (r % 256)] 5)
  have O2 := Lib.hid h3.own
  have S2 := Lib.hid s2
  have Z2 := Lib.hid h3.size
  have B3 := Lib.hid (B2.out.alloc h2.size (.cells #[.int .u8 (r % 256)] 5))
  have H3 := Lib.hid h3
  clear h2 h3 s2 hz B2
  go_wp2_with (at_builtin; (
     refine wpList_append_own_src rfl (.tmp 22) (.tmp 25) 35 35 rfl B 5 i0 (.int .u8 0) 1 1 Tryd.underlying35 hii hy0 hy1 hy2 rfl (by decide) (.slice ao buf.length cp) buf.length (u8c buf) rfl O2.out (.slice (some ⟨w2.heap.size, 0, none⟩) 1 1) 1 (u8c [UInt8.ofNat (r % 256).toNat]) rfl S2.out (by simp only [maxLen]; omega) (by omega) Z2.out ?_
     intro v' w4 hown4 hgrow4 _
     obtain ⟨ao4, cp4, rfl, _, _⟩ := own_val hown4
     obtain ⟨hp4, hb4, hk4⟩ := H3.out.grow hgrow4 hown4
     have f4 := hk4.free 0
     have c4 : w4.cell? ⟨g, 0, none⟩ = some (.slice ao buf.length cp) := by rw [hk4.cell, H3.out.c0]
     have H4 := Lib.hid hp4
     have B4 := Lib.hid (B3.out.trans hb4)
     clear hp4 hb4 hk4 hown4 hgrow4 hc0
     refine Hid.out ?_))
  refine Lib.hid ?_
  go_wp2
  go_end0
  exact ⟨_, rfl, H4.out, B4.out⟩

set_option maxHeartbeats 4000000 in
theorem bufRune_big (B g : Nat) (cs : Array Value) (v : Value) (buf : List UInt8) (r : Int) (w : World) (h : PB B g cs v buf w) (hhi : r ≤ 2147483647) (hr : 128 ≤ r) (hl : buf.length + 4 ≤ 2147483647) :
    Calls Tryd.prog 11 #[.pointer (some ⟨g, 0, none⟩), .int .i32 r] w (BufPost B g cs (buf ++ Lib.encodeRune r) w) := by
  obtain ⟨ao, cp, rfl, hcp, hmx⟩ := own_val h.own
  have c0 : w.cell? ⟨g, 0, none⟩ = some (.slice ao buf.length cp) := by rw [h.blk.cell, h.c0]
  have cm : w.cell? ⟨0, 0, none⟩ = some (.int .i64 2147483647) := h.max
  have hrl : -1 ≤ Lib.runeLen r ∧ Lib.runeLen r ≤ 4 := by unfold Lib.runeLen; omega
  have hgt : decide ((buf.length : Int) + Lib.runeLen r > 2147483647) = false := by simp; omega
  have ew : IntKind.i64.wrap ((buf.length : Int) + Lib.runeLen r) = (buf.length : Int) + Lib.runeLen r := IntWalk.i64_in _ (by omega)
  have tr : decide (r < 128) = false := by simp; omega
  have H := Lib.hid h
  have HR := fun n => Tryd.utf8_RuneLen r (w.drewN n)
  generalize Lib.runeLen r = rl at *
  clear h
  obtain ⟨i0, hii, hy0, hy1, hy2⟩ := info_parts u8_info
  go_enter Tryd.func11, Tryd.ntmps11
  go_wp2_with fail
  go_quiet ((go_at_call 12; exact Calls.quiet_of_same (HR _)))
  have h2 := H.out.drewN nq
  have B2 := Lib.hid (show Below B w (w.drewN nq) from ⟨rfl, rfl, rfl, Nat.le_refl _, fun _ _ => rfl⟩)
  have hc0 : (w.drewN nq).cell? ⟨g, 0, none⟩ = some (.slice ao buf.length cp) := c0
  have HMX := Lib.hid (show MaxS w from cm)
  clear c0 cm H HR ew hgt hrl
  generalize w.drewN nq = w2 at h2 B2 hc0 ⊢
  have H2 := Lib.hid h2
  clear h2
  go_wp2_with fail
  go_loopw [4] (fun v wr => ∃ (L : Nat) (ao : Option Addr) (cp : Nat), buf.length ≤ L ∧ L ≤ buf.length + 4 ∧ v = .slice ao L cp ∧ L ≤ cp ∧ cp ≤ maxLen ∧ wr.ownsRow B 5 1 v L (u8c (buf ++ List.replicate (L - buf.length) 0)) ∧ Blk wr g 45 cs ∧ Below B w wr) (fun v _ => buf.length + 4 - (match v with | .slice _ n _ => n | _ => 0))
  case atStart => exact ⟨buf.length, ao, cp, Nat.le_refl _, by omega, rfl, hcp, hmx, by simpa using H2.out.own, H2.out.blk, B2.out⟩
  case round =>
    obtain ⟨L, ao3, cp3, hL1, hL2, rfl, hLc, hLm, hown, hblk, hbel⟩ := hrel
    have hbase := H2.out.base
    have hsz : B ≤ wr.heap.size := by have := hblk.lt; omega
    simp only [maxLen] at hLm
    by_cases hlt : cp3 < buf.length + 4
    · have tl : decide ((buf.length : Int) + 4 > (cp3 : Int)) = true := by simp; omega
      have O3 := Lib.hid (hown.alloc (.cells #[.int .u8 0] 5))
      have S3 := Lib.hid (src_oneT Tryd.underlying35 (z := 0) (by decide) (Blk.new wr 5 #[.int .u8 0]))
      have Z3 : Hid (B ≤ (wr.alloc (.cells #[.int .u8 0] 5)).heap.size) := Lib.hid (by simp; omega)
      have K3 := Lib.hid (hblk.alloc (.cells #[.int .u8 0] 5))
      have B3 := Lib.hid (hbel.alloc hsz (.cells #[.int .u8 0] 5))
      clear hown hblk hbel hc0 H2 B2
      go_wp2_with (at_builtin; (
         refine wpList_append_own_src rfl (.tmp 38) (.tmp 39) 35 35 rfl B 5 i0 (.int .u8 0) 1 1 Tryd.underlying35 hii hy0 hy1 hy2 rfl (by decide) (.slice ao3 L cp3) L (u8c (buf ++ List.replicate (L - buf.length) 0)) rfl O3.out (.slice (some ⟨wr.heap.size, 0, none⟩) 1 1) 1 (u8c [UInt8.ofNat 0]) rfl S3.out (by simp only [maxLen]; omega) (by omega) Z3.out ?_
         intro v' w4 hown4 hgrow4 _
         obtain ⟨ao4, cp4, rfl, hq4, hm4⟩ := own_val hown4
         have hb4 := own_grow O3.out Z3.out hgrow4
         have hk4 : Blk w4 g 45 cs := K3.out.same (hgrow4.block g K3.out.lt (own_tag O3.out K3.out (by decide)))
         have O4 : Hid (w4.ownsRow B 5 1 (.slice ao4 (L + 1) cp4) (L + 1) (u8c (buf ++ List.replicate (L + 1 - buf.length) 0))) := Lib.hid (by
           rw [show L + 1 - buf.length = (L - buf.length) + 1 by omega, List.replicate_succ', ← List.append_assoc, u8c_app]
           exact hown4)
         have K4 := Lib.hid hk4
         have B4 := Lib.hid (B3.out.trans hb4)
         clear hb4 hk4 hown4 hgrow4
         refine Hid.out ?_))
      refine Lib.hid ?_
      go_wp2_with fail
      go_roundw
      case rel => exact ⟨L + 1, ao4, cp4, by omega, by omega, rfl, hq4, hm4, O4.out, K4.out, B4.out⟩
      case measure =>
        show buf.length + 4 - (L + 1) < buf.length + 4 - L
        omega
    · have tl : decide ((buf.length : Int) + 4 > (cp3 : Int)) = false := by simp; omega
      have hel := enc_len4 r
      obtain ⟨gb, cur, rfl, hgB, hcur, hcs, htk⟩ : ∃ gb cur, ao3 = some ⟨gb, 0, none⟩ ∧ B ≤ gb ∧ Blk wr gb 5 cur ∧ cur.size = cp3 ∧ cur.toList.take buf.length = u8c buf := by
        rcases hown.2 with ⟨h0, _⟩ | ⟨g', cap', cur, hv, hg', hh, hn, hm, hs, ht⟩
        · injection h0 with _ _ h3
          omega
        · injection hv with h1 h2 h3
          subst h1 h3
          refine ⟨g', cur, rfl, hg', hh, by omega, ?_⟩
          have e1 : cur.toList.take buf.length = (cur.toList.take (L * 1)).take buf.length := by rw [List.take_take, Nat.min_eq_left (by omega)]
          rw [e1, ht, u8c_app, List.take_left' (by rw [u8c_len])]
      have hne : g ≠ gb := Blk.tags hblk hcur (by decide)
      have hsl := fun W => run_slT 35 el_fb Tryd.underlying35 W gb 0 L cp3 buf.length (buf.length + 4) (by omega) (by omega) (by omega)
      have hslA := fun W => run_slAT 35 el_fb Tryd.underlying35 W gb 0 L cp3 buf.length (buf.length + 4) (by omega) (by omega) (by omega)
      simp only [Int.natCast_add, Int.cast_ofNat_Int, Nat.zero_add, Nat.add_sub_cancel_left] at hsl hslA
      have HE := Lib.hid (Tryd.utf8_EncodeRune gb buf.length 4 (cp3 - buf.length) r (by omega) hhi wr (by rw [enc_len]; omega) (fun j hj => by rw [enc_len] at hj; rw [hcur.cell, Array.getElem?_eq_getElem (by omega)]; rfl) (fun j hj => hcur.free _))
      rw [enc_cells] at HE
      have PCUR := Lib.hid hcur
      have PBLK := Lib.hid hblk
      have PBEL := Lib.hid hbel
      clear hown hblk hbel hcur hc0 B2
      go_wp2_with fail
      refine HE.out.mono ?_
      rintro e w5 ⟨rfl, hw5⟩
      have k5 : Blk w5 gb 5 (putMany cur buf.length (u8c (Lib.encodeRune r))) := by rw [hw5]; exact PCUR.out.puts _ _
      have p5 : Blk w5 g 45 cs := by rw [hw5]; exact PBLK.out.putsOther hne _ _
      have b5 : Below B w w5 := by rw [hw5]; exact below_puts hgB _ _ PBEL.out
      have hm := u8c_len (Lib.encodeRune r)
      have htake := putMany_take (u8c (Lib.encodeRune r)) cur buf.length (by omega)
      rw [htk, ← u8c_app, u8c_len] at htake
      have hps := putMany_size (u8c (Lib.encodeRune r)) cur buf.length
      have c5 : w5.cell? ⟨g, 0, none⟩ = some (.slice ao buf.length cp) := by rw [p5.cell, H2.out.c0]
      have f5 := p5.free 0
      have hcz : 0 < cs.size := by
        rcases Nat.lt_or_ge 0 cs.size with h1 | h1
        · exact h1
        · have := H2.out.c0
          rw [Array.getElem?_eq_none h1] at this
          cases this
      have hpb : PB B g (cs.setIfInBounds 0 (.slice (some ⟨gb, 0, none⟩) (buf.length + (Lib.encodeRune r).length) cp3)) (.slice (some ⟨gb, 0, none⟩) (buf.length + (Lib.encodeRune r).length) cp3) (buf ++ Lib.encodeRune r) (w5.setCell ⟨g, 0, none⟩ (.slice (some ⟨gb, 0, none⟩) (buf.length + (Lib.encodeRune r).length) cp3)) := by
        refine ⟨p5.put 0 _, by simp [hcz], ?_, hbase, ?_, H2.out.gmax⟩
        · have := own_of (l := buf ++ Lib.encodeRune r) (cap := cp3) (k5.other (p := ⟨g, 0, none⟩) hne.symm (.slice (some ⟨gb, 0, none⟩) (buf.length + (Lib.encodeRune r).length) cp3)) hgB (by simp; omega) (by simp only [maxLen]; omega) (by omega) (by rw [List.length_append]; exact htake)
          rw [List.length_append] at this ⊢
          exact this
        · exact HMX.out.keep H2.out.gmax (b5.setCell hbase _)
      have bpb : Below B w (w5.setCell ⟨g, 0, none⟩ (.slice (some ⟨gb, 0, none⟩) (buf.length + (Lib.encodeRune r).length) cp3)) := b5.setCell hbase _
      have hslo := fun W => run_sloT 35 el_fb Tryd.underlying35 W gb 0 L cp3 (buf.length + (Lib.encodeRune r).length) (by omega)
      have hsloA := fun W => run_sloAT 35 el_fb Tryd.underlying35 W gb 0 L cp3 (buf.length + (Lib.encodeRune r).length) (by omega)
      simp only [Int.natCast_add] at hslo hsloA
      rw [hm]
      have HP5 := Lib.hid hpb
      have BP5 := Lib.hid bpb
      clear hpb bpb hw5 k5 p5 b5 hm htake hps hcz HE PCUR PBLK PBEL hsl hslA htk hcs
      generalize hml : (Lib.encodeRune r).length = m at *
      go_wp2_with fail
      go_end0
      exact ⟨_, rfl, HP5.out, BP5.out⟩
end Go.Proofs.YtheplijoldihgaaDoor
