/-
  What token.Lookup computes: the keyword token of that spelling, or Ident; for every string, in a world that holds the token table. No other condition.
-/
import Derived.Test.YtamfekpcoppbgaaFmtSkA
import Derived.Test.YtamfekpcoppbgaaFmtTokVar
namespace Go.Proofs.YtamfekpcoppbgaaFmt
open Go.RowKit

def tokNth (k : Nat) : List UInt8 := tokTab.getD k []
def TokCells (w : World) : Prop := ∀ i : Nat, i < 75 → w.cell? ⟨0, i, none⟩ = some (.string ⟨(tokNth i).toArray⟩)
def lookFrom (s : List UInt8) : Nat → Nat → Int
  | 0, _ => 4
  | f + 1, k => if tokNth k = s then (k : Int) else lookFrom s f (k + 1)
def lookup (s : List UInt8) : Int := lookFrom s 15 60

def NumPost (k : Int) (w : World) (e : Ending) (w' : World) : Prop := e = .returned (.int .i64 k) ∧ w = w'

set_option maxHeartbeats 400000 in
theorem lookup_any (s : List UInt8) (w : World) (hw : TokCells w) : Calls Tryf.prog 34 #[.string ⟨s.toArray⟩] w (NumPost (lookup s) w) := by
  have HW := Lib.hid hw
  clear hw
  go_enter Tryf.func34, Tryf.ntmps34
  go_wp2
  go_loop [3] (fun i => ∃ k : Nat, 60 ≤ k ∧ k ≤ 75 ∧ i = .int .i64 k ∧ lookup s = lookFrom s (75 - k) k) (fun i => 75 - (intOf i).toNat)
  case atStart => exact ⟨60, by omega, by omega, rfl, rfl⟩
  case round =>
    obtain ⟨k, h60, h75, rfl, hl⟩ := hrel
    have HL := Lib.hid hl
    clear hl
    by_cases hlt : k < 75
    · have hc := HW.out k hlt
      have ef : 75 - k = (75 - (k + 1)) + 1 := by omega
      have hL := HL.out
      rw [ef, lookFrom] at hL
      by_cases hs : tokNth k = s
      · have hb : (tokNth k == s) = true := by simpa using hs
        rw [if_pos hs] at hL
        have HL2 := Lib.hid hL
        clear hL hs ef
        go_wp2
        go_ret
        exact ⟨by rw [HL2.out]; rfl, rfl⟩
      · have hb : (tokNth k == s) = false := by simpa using hs
        rw [if_neg hs] at hL
        have HL2 := Lib.hid hL
        clear hL hs ef
        go_wp2
        go_round
        case rel => exact ⟨k + 1, by omega, by omega, by go_num, HL2.out⟩
        case measure => simp [intOf]; omega
    · obtain rfl : k = 75 := by omega
      go_wp2
      go_ret
      exact ⟨by rw [HL.out]; rfl, rfl⟩

end Go.Proofs.YtamfekpcoppbgaaFmt
