/-
  What (token.Token).String computes: the table's text, or token(n); for every int, in a world that holds the two tables. No other condition.
-/
import Derived.Test.YtiimeakjediifaaDoorKit
import Derived.Test.YtiimeakjediifaaDoorShelf
import Derived.Lib.AppendIntMem
import Derived.Lib.ItoaLen
import Derived.Lib.Hide
namespace Go.Proofs.YtiimeakjediifaaDoor
open Go.RowKit

def tokTab : List (List UInt8) := [[73, 76, 76, 69, 71, 65, 76], [69, 79, 70], [67, 79, 77, 77, 69, 78, 84], [], [73, 68, 69, 78, 84], [73, 78, 84], [70, 76, 79, 65, 84], [67, 72, 65, 82], [83, 84, 82, 73, 78, 71], [], [], [43], [45], [42], [47], [37], [38], [124], [94], [60, 60], [62, 62], [38, 94], [43, 61], [45, 61], [42, 61], [47, 61], [37, 61], [38, 61], [124, 61], [94, 61], [60, 60, 61], [62, 62, 61], [38, 94, 61], [38, 38], [124, 124], [43, 43], [45, 45], [61, 61], [60], [62], [61], [33], [33, 61], [60, 61], [62, 61], [58, 61], [46, 46, 46], [40], [91], [123], [44], [46], [41], [93], [125], [59], [58], [63], [], [], [98, 114, 101, 97, 107], [99, 111, 110, 116, 105, 110, 117, 101], [101, 108, 115, 101], [102, 111, 114], [102, 117, 110, 99], [101, 114, 114, 111, 114], [105, 109, 109, 117, 116, 97, 98, 108, 101], [105, 102], [114, 101, 116, 117, 114, 110], [101, 120, 112, 111, 114, 116], [116, 114, 117, 101], [102, 97, 108, 115, 101], [105, 110], [117, 110, 100, 101, 102, 105, 110, 101, 100], [105, 109, 112, 111, 114, 116]]

def tokenOpen : List UInt8 := [116, 111, 107, 101, 110, 40]
def tokOther (n : Int) : List UInt8 := tokenOpen ++ Lib.itoa n ++ [41]
/-- the table's text at n; empty outside -/
def tokAt (n : Int) : List UInt8 := if 0 ≤ n ∧ n < 75 then tokTab.getD n.toNat [] else []
/-- what String returns -/
def tokName (n : Int) : List UInt8 := if tokAt n = [] then tokOther n else tokAt n

/-- The two tables that String and Itoa read. -/
structure TokWorld (w : World) : Prop where
  tok : ∀ i : Nat, i < 75 → w.cell? ⟨0, i, none⟩ = some (.string ⟨(tokTab.getD i []).toArray⟩)
  pow : Lib.TabIs Tryd.prog w "internal/strconv.uint64pow10" .u64 Lib.pow10Tab

theorem tab_size {P : Program} {w : World} {name : String} {k : IntKind} {zs : List Int} {g : Nat} (h : Lib.TabIs P w name k zs) (hg : P.globalNamed name = some g) (hz : 0 < zs.length) : g < w.heap.size := by
  have := h.cell hg 0 hz
  rcases Nat.lt_or_ge g w.heap.size with hlt | hge
  · exact hlt
  · simp [World.cell?, Array.getElem?_eq_none hge] at this
theorem cell_size {w : World} {g i : Nat} {v : Value} (h : w.cell? ⟨g, i, none⟩ = some v) : g < w.heap.size := by
  rcases Nat.lt_or_ge g w.heap.size with hlt | hge
  · exact hlt
  · simp [World.cell?, Array.getElem?_eq_none hge] at h
theorem tab_below {P : Program} {w w' : World} {name : String} {k : IntKind} {zs : List Int} {g : Nat} (h : Lib.TabIs P w name k zs) (hg : P.globalNamed name = some g) (hz : 0 < zs.length) (hb : Below w.heap.size w w') : Lib.TabIs P w' name k zs := by
  have hlt := tab_size h hg hz
  unfold Lib.TabIs World.var? at h ⊢
  rw [hg] at h ⊢
  simp only [Option.bind_some] at h ⊢
  rw [hb.block g hlt]
  exact h
theorem TokWorld.below {w w' : World} (h : TokWorld w) (hb : Below w.heap.size w w') : TokWorld w' :=
  ⟨fun i hi => (hb.cell (p := ⟨0, i, none⟩) (cell_size (h.tok i hi))).trans (h.tok i hi),
   tab_below h.pow (g := 1) (by kernel_rfl) (by decide) hb⟩

def StrPost (l : List UInt8) (w : World) (e : Ending) (w' : World) : Prop := e = .returned (.string ⟨l.toArray⟩) ∧ Below w.heap.size w w'

set_option maxHeartbeats 400000 in
theorem str_in (n : Int) (w : World) (s : ByteArray) (h0 : 0 ≤ n) (h1 : n < 75) (hc : w.cell? ⟨0, n.toNat, none⟩ = some (.string s)) (hs1 : s.toList.isEmpty = false) :
    Calls Tryd.prog 9 #[.int .i64 n] w fun e w' => e = .returned (.string s) ∧ w = w' := by
  go_enter Tryd.func9, Tryd.ntmps9
  go_wp2_with fail
  go_ret
  exact ⟨rfl, rfl⟩

set_option maxHeartbeats 400000 in
theorem str_blank (n : Int) (w : World) (s : ByteArray) (h0 : 0 ≤ n) (h1 : n < 75) (hc : w.cell? ⟨0, n.toNat, none⟩ = some (.string s)) (hs1 : s.toList.isEmpty = true) (hp : Lib.TabIs Tryd.prog w "internal/strconv.uint64pow10" .u64 Lib.pow10Tab) :
    Calls Tryd.prog 9 #[.int .i64 n] w (StrPost (tokOther n) w) := by
  have HP := Lib.hid hp
  clear hp
  have hlen := Lib.itoa_length_le n (by omega) (by omega)
  go_enter Tryd.func9, Tryd.ntmps9
  go_wp2_with (go_at_call 15; refine (Tryd.strconv_Itoa _ (by omega) (by omega) _ HP.out).mono ?_; rintro e w' ⟨rfl, hk⟩; have HK := Lib.hid hk; clear hk)
  go_ret
  obtain ⟨k, os, rfl⟩ := HK.out
  exact ⟨by simp [tokOther, tokenOpen]; rfl, Lib.below_grow _ _ (Nat.le_refl _) _ _⟩

set_option maxHeartbeats 400000 in
theorem str_out (n : Int) (w : World) (hn0 : -9223372036854775808 ≤ n) (hn1 : n ≤ 9223372036854775807) (h : n < 0 ∨ 75 ≤ n) (hp : Lib.TabIs Tryd.prog w "internal/strconv.uint64pow10" .u64 Lib.pow10Tab) :
    Calls Tryd.prog 9 #[.int .i64 n] w (StrPost (tokOther n) w) := by
  have HP := Lib.hid hp
  clear hp
  have hlen := Lib.itoa_length_le n (by omega) (by omega)
  rcases h with h | h
  all_goals
    go_enter Tryd.func9, Tryd.ntmps9
    go_wp2_with (go_at_call 15; refine (Tryd.strconv_Itoa _ (by omega) (by omega) _ HP.out).mono ?_; rintro e w' ⟨rfl, hk⟩; have HK := Lib.hid hk; clear hk)
    go_ret
    obtain ⟨k, os, rfl⟩ := HK.out
    exact ⟨by simp [tokOther, tokenOpen]; rfl, Lib.below_grow _ _ (Nat.le_refl _) _ _⟩

/-- WHAT String RETURNS, at every int. -/
theorem tok_string (n : Int) (w : World) (hn0 : -9223372036854775808 ≤ n) (hn1 : n ≤ 9223372036854775807) (hw : TokWorld w) :
    Calls Tryd.prog 9 #[.int .i64 n] w (StrPost (tokName n) w) := by
  by_cases h : 0 ≤ n ∧ n < 75
  · have hc := hw.tok n.toNat (by omega)
    have e : tokAt n = tokTab.getD n.toNat [] := by simp [tokAt, h]
    rw [← e] at hc
    by_cases hz : tokAt n = []
    · have en : tokName n = tokOther n := by simp [tokName, hz]
      rw [en]
      exact str_blank n w _ h.1 h.2 hc (by rw [ByteArray.toList_eq]; simp [hz]) hw.pow
    · have en : tokName n = tokAt n := by simp [tokName, hz]
      rw [en]
      refine (str_in n w _ h.1 h.2 hc (by rw [ByteArray.toList_eq]; simpa using hz)).mono ?_
      rintro e w' ⟨rfl, rfl⟩
      exact ⟨rfl, Below.refl _ _⟩
  · have en : tokName n = tokOther n := by simp [tokName, tokAt, h]
    rw [en]
    exact str_out n w hn0 hn1 (by omega) hw.pow

end Go.Proofs.YtiimeakjediifaaDoor
