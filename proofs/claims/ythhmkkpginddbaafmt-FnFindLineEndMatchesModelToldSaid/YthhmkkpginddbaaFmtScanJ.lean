/-
  Scan at an identifier of one letter. Conditions: as stated.
-/
import Derived.Test.YthhmkkpginddbaaFmtIdY
import Derived.Outline
namespace Go.Proofs.YthhmkkpginddbaaFmt
open Go.RowKit
set_option maxRecDepth 100000
set_option linter.unusedVariables false

def ScanIdPost (F : Fix) (src : List UInt8) (s : St) (w : World) (e : Ending) (w' : World) : Prop :=
  ∃ (t : St) (z : Int), e = .returned (.tuple #[.int .i64 4, .string ⟨(cut src s.off (s.off + 1)).toArray⟩, .int .i64 z]) ∧ InRun src s.off (s.off + 1) s.ec t ∧ t.off = s.off + 1 ∧ SC F src { t with semi := true } w' ∧ Below F.B w w'
theorem SkipR.same {src : List UInt8} {s t : St} (h : SkipR src s t) (hw : wsp s = false) : t = s := by
  cases h with
  | stop _ => rfl
  | step h _ => rw [hw] at h; cases h
set_option maxHeartbeats 4000000 in
theorem scanId1_any (F : Fix) (src : List UInt8) (s : St) (w : World) (h : SC F src s w) (hg : Good src s) (hl : asciiLetter s.ch = true) (hr : RunEnd src s.off (s.off + 1)) (ha : s.off + 1 < src.length → bt src (s.off + 1) < 128) (hm : s.mode = 0) (hk : KwAt w) (hG : 0 < F.B) (hec : s.ec ≤ 1000000000) :
    Calls Tryf.prog 33 #[.pointer (some ⟨F.gS, 0, none⟩)] w (ScanIdPost F src s w) := by
  have hch : s.ch < 128 := by
    have := of_decide_eq_true hl
    omega
  have hws : wsp s = false := by
    unfold wsp
    have := of_decide_eq_true hl
    apply decide_eq_false
    omega
  have HSK := Lib.hid (skip_any F src s w h hg (by omega))
  have HL := Lib.hid hl
  have HG := Lib.hid hg
  have HR := Lib.hid hr
  have HA := Lib.hid ha
  have HM := Lib.hid hm
  have HK := Lib.hid hk
  have HW := Lib.hid hws
  clear h hg hl hr ha hm hk hws
  go_enter Tryf.func33, Tryf.ntmps33
  go_wp2_with (go_at_call 42; refine Hid.out ?_)
  refine Lib.hid ?_
  refine HSK.out.mono ?_
  rintro e w1 ⟨t, rfl, hsk, _, hs1, hb1⟩
  obtain rfl := hsk.same HW.out
  have c0 : w1.cell? ⟨F.gS, 0, none⟩ = some (.pointer (some ⟨F.gF, 0, none⟩)) := by rw [hs1.blkS.cell]; rfl
  have c2 : w1.cell? ⟨F.gS, 2, none⟩ = some (.int .i32 t.ch) := by rw [hs1.blkS.cell]; rfl
  have c3 : w1.cell? ⟨F.gS, 3, none⟩ = some (.int .i64 (t.off : Int)) := by rw [hs1.blkS.cell]; rfl
  have HFS : Hid (∀ n, Calls Tryf.prog 43 #[.pointer (some ⟨F.gF, 0, none⟩), .int .i64 (t.off : Int)] (w1.drewN n) fun e w' => e = .returned (.int .i64 (wrap64 ((F.fx.base : Int) + (t.off : Int)))) ∧ w' = w1.drewN n) := Lib.hid (fun n => by
    obtain ⟨lv, hlb, _⟩ := (hs1.drewN n).file
    exact (fsp_any F.gF F.fx src.length t.off lv _ hlb hs1.off hs1.len).mono (fun _ _ ⟨a, b⟩ => ⟨a, b.symm⟩))
  have H1 := Lib.hid hs1
  have B1 := Lib.hid hb1
  clear hs1 hb1 HSK hsk HW
  go_wp2_with fail
  go_quiet ((go_at_call 43; exact Calls.quiet_of_same (HFS.out _)))
  have H2 := Lib.hid (H1.out.drewN nq)
  have B2 := Lib.hid (below_drewN0 B1.out nq)
  have d2 : (w1.drewN nq).cell? ⟨F.gS, 2, none⟩ = some (.int .i32 t.ch) := c2
  clear c0 c2 c3 H1 B1 HFS
  generalize w1.drewN nq = w2 at H2 B2 d2 ⊢
  go_wp2_with first | (go_at_call 40; refine (isLetter_ascii _ _ hch).mono ?_; rintro e w' ⟨rfl, rfl⟩; rw [HL.out]) | (go_at_call 32; refine Hid.out ?_)
  refine Lib.hid ?_
  refine (scanId2_any F src t (t.off + 1) w2 H2.out HG.out HR.out (by omega) HA.out hec).mono ?_
  rintro e w3 ⟨u, rfl, hin, huo, hum, hus, hs3, hb3⟩
  have hcl : (cut src t.off (t.off + 1)).length ≤ 1 := by
    rw [cut_len src _ _ HR.out.len]
    omega
  have HK3 := HK.out.below hG (B2.out.trans hb3)
  have HLK := Lib.hid (lookup_short (cut src t.off (t.off + 1)) w3 hcl HK3)
  have d9 : w3.cell? ⟨F.gS, 9, none⟩ = some (.int .i64 0) := by rw [hs3.blkS.cell, ← HM.out, ← hum]; rfl
  have d6 : w3.cell? ⟨F.gS, 6, none⟩ = some (.bool u.semi) := by rw [hs3.blkS.cell]; rfl
  have f6 := hs3.blkS.free 6
  have hbs := hs3.blkS.put 6 (.bool true)
  have HIN := Lib.hid hin
  have HUO := Lib.hid huo
  have H3 := Lib.hid hs3
  have B3 := Lib.hid (B2.out.trans hb3)
  have HBS := Lib.hid hbs
  clear hin huo hum hus hs3 hb3 HK3 hbs H2 B2 hcl
  obtain ⟨lit, hlit⟩ : ∃ lit, cut src t.off (t.off + 1) = lit := ⟨_, rfl⟩
  rw [hlit] at HLK ⊢
  have HLIT := Lib.hid hlit
  clear hlit
  go_wp2_with (go_at_call 44; refine HLK.out.mono ?_; rintro e w' ⟨rfl, rfl⟩)
  go_ret3
  have hsc : SC F src { u with semi := true } (w3.setCell ⟨F.gS, 6, none⟩ (.bool true)) := SC.write H3.out ((OnlyS.refl F.gS w3).put 6 _) (by exact HBS.out) rfl H3.out.rd H3.out.off H3.out.lo H3.out.ch
  exact ⟨u, _, by rw [HLIT.out]; rfl, HIN.out, HUO.out, hsc, B3.out.setCell H3.out.hS _⟩
end Go.Proofs.YthhmkkpginddbaaFmt
