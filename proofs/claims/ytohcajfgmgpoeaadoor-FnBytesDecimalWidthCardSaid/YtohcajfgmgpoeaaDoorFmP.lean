/-
  pad, walked: a text of ASCII with blanks around it, behind the buffer. Conditions: the zero flag is off; the text stays within MaxStringLen.
-/
import Derived.Test.YtohcajfgmgpoeaaDoorFmW
import Derived.Test.YtohcajfgmgpoeaaDoorPPWrite
import Derived.Deep.QuietTactic
import Derived.BigQuiet
namespace Go.Proofs.YtohcajfgmgpoeaaDoor
open Go.RowKit
set_option maxRecDepth 100000
set_option linter.unusedVariables false

/-- bytes that lie neither in the printer's first cell nor in its buffer -/
structure PSrc (g : Nat) (v : Value) (oA : Option Addr) (l : List UInt8) (w : World) : Prop where
  at_ : ∃ b o, oA = some ⟨b, o, none⟩ ∧ b < w.heap.size ∧ ((b = g ∧ 0 < o) ∨ (b ≠ g ∧ some b ≠ v.ownBlock)) ∧ ∀ i (h : i < l.length), w.cell? ⟨b, o + i, none⟩ = some (.int .u8 (l[i].toNat : Int))
theorem PSrc.src {g : Nat} {v : Value} {oA : Option Addr} {l : List UInt8} {w : World} (h : PSrc g v oA l w) : SrcAt w w.heap.size oA l := by
  obtain ⟨b, o, e, h1, _, h3⟩ := h.at_
  exact Or.inr ⟨b, o, e, h1, h3⟩
theorem PSrc.keep {g : Nat} {v : Value} {oA : Option Addr} {l : List UInt8} {w w' : World} (h : PSrc g v oA l w) (hk : Kp g v w w') : SrcAt w' w.heap.size oA l := by
  obtain ⟨b, o, e, h1, h2, h3⟩ := h.at_
  refine Or.inr ⟨b, o, e, h1, fun i hi => ?_⟩
  rw [← h3 i hi]
  rcases h2 with ⟨rfl, h4⟩ | ⟨h4, h5⟩
  · exact hk.own _ (by omega)
  · exact World.cell?_of_block (w := w) (hk.blk b h1 h4 h5)
theorem Scr.psrc {B g b o n i : Nat} {fl : Fl} {v : Value} {buf l : List UInt8} {w : World} (h : Scr B g fl v buf b o n w i l) : PSrc g v (some ⟨b, o + i, none⟩) l w := by
  refine ⟨b, o + i, rfl, h.lt, ?_, fun k hk => by rw [Nat.add_assoc]; exact h.at_ k hk⟩
  rcases h.place with ⟨h1, h2, _⟩ | ⟨h1, _, _, h4, _⟩
  · exact Or.inl ⟨h1, by omega⟩
  · exact Or.inr ⟨h1, h4⟩
set_option maxHeartbeats 1000000 in
theorem runeCount_any (oA : Option Addr) (cap : Nat) (l : List UInt8) (w : World) (hsrc : SrcAt w w.heap.size oA l) (hn : l.length ≤ 9223372036854775807) (ha : ∀ c ∈ l, c.toNat < 128) :
    Calls Tryd.prog 36 #[.slice oA l.length cap] w fun e w' => e = .returned (.int .i64 (l.length : Int)) ∧ w = w' := by
  have HA := Lib.hid ha
  have HS := Lib.hid hsrc
  clear ha hsrc
  go_enter Tryd.func36, Tryd.ntmps36
  go_wp2_with fail
  go_loop [4] (fun v => ∃ i : Nat, i ≤ l.length ∧ v = .int .i64 (i : Int)) (fun v => l.length - (intOf v).toNat)
  case atStart => exact ⟨0, Nat.zero_le _, rfl⟩
  case round =>
    obtain ⟨i, hi, rfl⟩ := hrel
    by_cases hlt : i < l.length
    · obtain ⟨b, o, e, hb, hc⟩ := HS.out.at_ (by omega)
      obtain rfl := e
      have c1 : w.cell? ⟨b, o + i, none⟩ = some (.int .u8 (l[i].toNat : Int)) := hc i hlt
      have h8 : (l[i].toNat : Int) < 128 := by have := HA.out l[i] (List.getElem_mem _); omega
      have h8b : decide ((l[i].toNat : Int) ≥ 128) = false := by simp; omega
      generalize l[i].toNat = z at c1 h8 h8b
      clear hc
      go_wp2_with fail
      go_round
      case rel => exact ⟨i + 1, hlt, by go_num⟩
      case measure => simp [intOf]; omega
    · obtain rfl : i = l.length := by omega
      go_wp2_with fail
      go_ret
      exact ⟨rfl, rfl⟩
theorem bufWriteF_any (B g : Nat) (fl : Fl) (v : Value) (buf : List UInt8) (D : Nat) (oA : Option Addr) (cap : Nat) (l : List UInt8) (w : World) (h : PF B g fl v buf w) (hs : SrcAt w D oA l) (hl : buf.length + l.length ≤ 2147483647) :
    Calls Tryd.prog 35 #[.pointer (some ⟨g, 0, none⟩), .slice oA l.length cap] w fun e w' => ∃ v', e = .returned (.tuple #[]) ∧ PF B g fl v' (buf ++ l) w' ∧ Below B w w' := by
  obtain ⟨cs, h1, h2⟩ := h
  refine (bufWrite_any B g cs v buf D oA cap l w h1 hs hl).mono ?_
  rintro e w' ⟨v', h3, h4, h5⟩
  exact ⟨v', h3, ⟨_, h4, h2.put0 0 _ (Or.inl rfl)⟩, h5⟩
def PadPost (B g : Nat) (fl : Fl) (l : List UInt8) (w : World) (e : Ending) (w' : World) : Prop :=
  ∃ v', e = .returned (.tuple #[]) ∧ PF B g fl v' l w' ∧ Below B w w'
theorem pad_zero (wp mi : Bool) (l : List UInt8) : padT wp 0 mi l = l := by
  unfold padT rep
  simp
set_option maxHeartbeats 4000000 in
theorem pad_any (B g : Nat) (fl : Fl) (v : Value) (buf : List UInt8) (oA : Option Addr) (cap : Nat) (l : List UInt8) (w : World) (h : PF B g fl v buf w) (hz : fl.ze = false) (hs : PSrc g v oA l w) (hw : fl.wid ≤ 65536) (ha : ∀ c ∈ l, c.toNat < 128) (hll : l.length ≤ 1000000) (hl : buf.length + 2000000 ≤ 2147483647) :
    Calls Tryd.prog 27 #[.pointer (some ⟨g, 2, none⟩), .slice oA l.length cap] w (PadPost B g fl (buf ++ padT fl.wp fl.wid fl.mi l) w) := by
  obtain ⟨_, d2, d3, _, d5, _, _, _, _, d15, _, _⟩ := h.cells
  have H := Lib.hid h
  have HS := Lib.hid hs
  have HZ := Lib.hid hz
  clear h hs hz
  by_cases hw0 : fl.wp = false ∨ fl.wid = 0
  · have e : buf ++ padT fl.wp fl.wid fl.mi l = buf ++ l := by
      rcases hw0 with h0 | h0
      · rw [h0]
        rfl
      · rw [h0, pad_zero]
    rw [e]
    have HW := Lib.hid (bufWriteF_any B g fl v buf _ oA cap l w H.out HS.out.src (by omega))
    clear e
    rcases Bool.eq_false_or_eq_true fl.wp with hp | hp
    · have h0 : fl.wid = 0 := by
        rcases hw0 with h0 | h0
        · rw [hp] at h0
          cases h0
        · exact h0
      rw [hp] at d3
      rw [h0] at d15
      clear hw0 hp h0
      go_enter Tryd.func27, Tryd.ntmps27
      go_wp2_with fail
      refine HW.out.mono ?_
      rintro e w2 ⟨v', rfl, h2, h3⟩
      have H2 := Lib.hid (And.intro h2 h3)
      clear h2 h3
      go_wp2_with fail
      go_end0
      exact ⟨v', rfl, H2.out.1, H2.out.2⟩
    · rw [hp] at d3
      clear hw0 hp
      go_enter Tryd.func27, Tryd.ntmps27
      go_wp2_with fail
      refine HW.out.mono ?_
      rintro e w2 ⟨v', rfl, h2, h3⟩
      have H2 := Lib.hid (And.intro h2 h3)
      clear h2 h3
      go_wp2_with fail
      go_end0
      exact ⟨v', rfl, H2.out.1, H2.out.2⟩
  have hp : fl.wp = true := by
    rcases Bool.eq_false_or_eq_true fl.wp with hp | hp
    · exact hp
    · exact absurd (Or.inl hp) hw0
  have hwz : fl.wid ≠ 0 := fun h => hw0 (Or.inr h)
  have t0 : ((fl.wid : Int) == 0) = false := by simp; omega
  have HRC : Hid (∀ n, Calls Tryd.prog 36 #[.slice oA l.length cap] (w.drewN n) fun e w' => e = .returned (.int .i64 (l.length : Int)) ∧ w' = w.drewN n) := Lib.hid (fun n => (runeCount_any oA cap l (w.drewN n) (HS.out.src.keep (fun _ _ => rfl)) (by omega) ha).mono fun _ _ hh => ⟨hh.1, hh.2.symm⟩)
  rw [hp] at d3 ⊢
  have ez : ((fl.wid : Int) - (l.length : Int)).toNat = fl.wid - l.length := by omega
  have HEZ := Lib.hid ez
  clear ha hw0 hp hwz ez
  rcases Bool.eq_false_or_eq_true fl.mi with hm | hm
  · rw [hm] at d5
    have e : buf ++ padT true fl.wid fl.mi l = (buf ++ l) ++ rep (fl.wid - l.length) 32 := by rw [hm, List.append_assoc]; rfl
    rw [e]
    clear e hm
    go_enter Tryd.func27, Tryd.ntmps27
    go_wp2_with fail
    go_quiet ((go_at_call 36; exact Calls.quiet_of_same (HRC.out _)))
    have HW := Lib.hid (bufWriteF_any B g fl v buf _ oA cap l (w.drewN nq) (H.out.drewN nq) (HS.out.src.keep (fun _ _ => rfl)) (by omega))
    go_wp2_with fail
    refine HW.out.mono ?_
    rintro e w2 ⟨v', rfl, h2, h3⟩
    have HP := Lib.hid (wpad_any B g fl v' (buf ++ l) ((fl.wid : Int) - (l.length : Int)) w2 h2 HZ.out (by omega) (by rw [List.length_append]; omega))
    have H3 : Hid (Below B w w2) := Lib.hid ((below_dn (Below.refl B w) nq).trans h3)
    rw [HEZ.out] at HP
    clear h2 h3 HW
    go_wp2_with fail
    refine HP.out.mono ?_
    rintro e w4 ⟨v4, rfl, h4, h5, _⟩
    have H4 := Lib.hid (And.intro h4 (H3.out.trans h5))
    clear h4 h5
    go_wp2_with fail
    go_end0
    exact ⟨v4, rfl, H4.out.1, H4.out.2⟩
  · rw [hm] at d5
    have e : buf ++ padT true fl.wid fl.mi l = (buf ++ rep (fl.wid - l.length) 32) ++ l := by rw [hm, List.append_assoc]; rfl
    rw [e]
    clear e hm
    go_enter Tryd.func27, Tryd.ntmps27
    go_wp2_with fail
    go_quiet ((go_at_call 36; exact Calls.quiet_of_same (HRC.out _)))
    have HP := Lib.hid (wpad_any B g fl v buf ((fl.wid : Int) - (l.length : Int)) (w.drewN nq) (H.out.drewN nq) HZ.out (by omega) (by omega))
    rw [HEZ.out] at HP
    go_wp2_with fail
    refine HP.out.mono ?_
    rintro e w2 ⟨v', rfl, h2, h3, h4⟩
    have hk : Kp g v w w2 := ⟨fun k k1 k2 k3 => h4.blk k k1 k2 k3, fun i hi => h4.own i hi⟩
    obtain ⟨_, d2b, _⟩ := h2.cells
    have HW := Lib.hid (bufWriteF_any B g fl v' _ _ oA cap l w2 h2 (HS.out.keep hk) (by rw [List.length_append, rep_len]; omega))
    have H3 : Hid (Below B w w2) := Lib.hid ((below_dn (Below.refl B w) nq).trans h3)
    clear h2 h3 h4 hk HP
    go_wp2_with fail
    refine HW.out.mono ?_
    rintro e w4 ⟨v4, rfl, h4, h5⟩
    have H4 := Lib.hid (And.intro h4 (H3.out.trans h5))
    clear h4 h5
    go_wp2_with fail
    go_end0
    exact ⟨v4, rfl, H4.out.1, H4.out.2⟩
end Go.Proofs.YtohcajfgmgpoeaaDoor
