/-
  DERIVED: THE SHELF's CONTRACTS AT THIS DUMP, IN PLAIN WORDS (tools/lay-plain.mjs out of 'TrydShelf.lean', which tools/lay-shelf.mjs wrote): THE SAME DECLARATIONS UNDER THE SAME NAMES: 'import', 'namespace', 'open', 'def', 'theorem' AND NOTHING ELSE: no command of the shelf's: FOR A HAND-IN. Each laying: the table of numbers ('.._ren') and one theorem, a field a fact of the dump's own or the kernel's comparison; each contract: ONE APPLICATION.
-/
import Derived.Shelf.Unicode.Props
import Derived.Shelf.Unicode.Is16White
import Derived.Shelf.Unicode.IsSpaceAny
import Derived.Shelf.Unicode.Is16Any
import Derived.Shelf.Unicode.Is32Any
import Derived.Shelf.Unicode.ExclAny
import Derived.Shelf.Unicode.PredsAny
import Derived.Shelf.Unicode.PredsPay
import Derived.Test.YtnddjmbgcaoccaaDoorProg
namespace Go.Proofs
open Go.Shelf
def Tryd.lays200_ren : Go.Shelf.Ren := ⟨fun | 200 => 7 | 261 => 8 | 311 => 9 | 312 => 10 | n => n, fun | 21 => 21 | 4 => 4 | 51 => 23 | 5 => 5 | 119 => 24 | 0 => 0 | 141 => 26 | 196 => 30 | 193 => 27 | 3 => 3 | 198 => 33 | 49 => 31 | 194 => 28 | 201 => 36 | 226 => 38 | 46 => 39 | 227 => 40 | n => n, fun | 7 => 0 | 8 => 1 | n => n⟩
theorem Tryd.lays200 : Go.Proofs.Lays.n200 Tryd.prog Tryd.lays200_ren := {
  mixed := by kernel_rfl
  f200 := Tryd.func7.trans (congrArg some (by kernel_rfl))
  f261 := Tryd.func8.trans (congrArg some (by kernel_rfl))
  f311 := Tryd.func9.trans (congrArg some (by kernel_rfl))
  f312 := Tryd.func10.trans (congrArg some (by kernel_rfl))
  t0 := Tryd.underlying0
  a0 := Tryd.isAgg0
  z0 := Tryd.sizeOf0
  v0 := Tryd.zeroValue0
  t3 := Tryd.underlying3
  a3 := Tryd.isAgg3
  z3 := Tryd.sizeOf3
  v3 := Tryd.zeroValue3
  t4 := Tryd.underlying4
  a4 := Tryd.isAgg4
  z4 := Tryd.sizeOf4
  v4 := Tryd.zeroValue4
  t5 := Tryd.underlying5
  a5 := Tryd.isAgg5
  z5 := Tryd.sizeOf5
  v5 := Tryd.zeroValue5
  t21 := Tryd.underlying21
  a21 := Tryd.isAgg21
  z21 := Tryd.sizeOf21
  v21 := Tryd.zeroValue21
  t46 := Tryd.underlying39
  a46 := Tryd.isAgg39
  z46 := Tryd.sizeOf39
  v46 := Tryd.zeroValue39
  t49 := Tryd.underlying31
  a49 := Tryd.isAgg31
  z49 := Tryd.sizeOf31
  v49 := Tryd.zeroValue31
  t51 := Tryd.underlying23
  a51 := Tryd.isAgg23
  z51 := Tryd.sizeOf23
  v51 := Tryd.zeroValue23
  t119 := Tryd.underlying24
  a119 := Tryd.isAgg24
  z119 := Tryd.sizeOf24
  t141 := Tryd.underlying26
  a141 := Tryd.isAgg26
  z141 := Tryd.sizeOf26
  v141 := Tryd.zeroValue26
  t193 := Tryd.underlying27
  a193 := Tryd.isAgg27
  z193 := Tryd.sizeOf27
  v193 := Tryd.zeroValue27
  t194 := Tryd.underlying28
  a194 := Tryd.isAgg28
  z194 := Tryd.sizeOf28
  v194 := Tryd.zeroValue28
  t196 := Tryd.underlying30
  a196 := Tryd.isAgg30
  z196 := Tryd.sizeOf30
  v196 := Tryd.zeroValue30
  t198 := Tryd.underlying33
  a198 := Tryd.isAgg33
  z198 := Tryd.sizeOf33
  v198 := Tryd.zeroValue33
  t201 := Tryd.underlying36
  a201 := Tryd.isAgg36
  z201 := Tryd.sizeOf36
  v201 := Tryd.zeroValue36
  t226 := Tryd.underlying38
  a226 := Tryd.isAgg38
  z226 := Tryd.sizeOf38
  v226 := Tryd.zeroValue38
  t227 := Tryd.underlying40
  a227 := Tryd.isAgg40
  z227 := Tryd.sizeOf40
  v227 := Tryd.zeroValue40
  g7 := by kernel_rfl
  g8 := by kernel_rfl }
open Go.RowKit Go.Lib in
theorem Tryd.unicode_IsLetter (c : Nat) (w : World) (hc : c < 256) (htab : Lib.TabIs Tryd.prog w "unicode.properties" .u8 Lib.propertiesTab) :
    Calls Tryd.prog 7 #[.int .i32 c] w fun e w' => e = .returned (.bool (Lib.isLetterL c)) ∧ w' = w := Any.unicode_IsLetter Tryd.lays200 (by kernel_rfl) c w hc htab
def Tryd.lays311_ren : Go.Shelf.Ren := ⟨fun | 311 => 9 | n => n, fun | 193 => 27 | 49 => 31 | 4 => 4 | 3 => 3 | 0 => 0 | 226 => 38 | 198 => 33 | 46 => 39 | n => n, fun | n => n⟩
theorem Tryd.lays311 : Go.Proofs.Lays.n311 Tryd.prog Tryd.lays311_ren := {
  mixed := by kernel_rfl
  f311 := Tryd.func9.trans (congrArg some (by kernel_rfl))
  t0 := Tryd.underlying0
  a0 := Tryd.isAgg0
  z0 := Tryd.sizeOf0
  v0 := Tryd.zeroValue0
  t3 := Tryd.underlying3
  a3 := Tryd.isAgg3
  z3 := Tryd.sizeOf3
  v3 := Tryd.zeroValue3
  t4 := Tryd.underlying4
  a4 := Tryd.isAgg4
  z4 := Tryd.sizeOf4
  v4 := Tryd.zeroValue4
  t46 := Tryd.underlying39
  a46 := Tryd.isAgg39
  z46 := Tryd.sizeOf39
  v46 := Tryd.zeroValue39
  t49 := Tryd.underlying31
  a49 := Tryd.isAgg31
  z49 := Tryd.sizeOf31
  v49 := Tryd.zeroValue31
  t193 := Tryd.underlying27
  a193 := Tryd.isAgg27
  z193 := Tryd.sizeOf27
  v193 := Tryd.zeroValue27
  t198 := Tryd.underlying33
  a198 := Tryd.isAgg33
  z198 := Tryd.sizeOf33
  v198 := Tryd.zeroValue33
  t226 := Tryd.underlying38
  a226 := Tryd.isAgg38
  z226 := Tryd.sizeOf38
  v226 := Tryd.zeroValue38 }
open Go.RowKit Go.Lib in
theorem Tryd.unicode_is16_white (R oR : Nat) (z : Nat) (w : World) (hz : z < 65536) (hz0 : 255 < z) (c6 : w.cell? ⟨R, oR + 6, none⟩ = some (.int .u16 160)) (c7 : w.cell? ⟨R, oR + 7, none⟩ = some (.int .u16 5760)) (c8 : w.cell? ⟨R, oR + 8, none⟩ = some (.int .u16 5600)) (c9 : w.cell? ⟨R, oR + 9, none⟩ = some (.int .u16 8192)) (c10 : w.cell? ⟨R, oR + 10, none⟩ = some (.int .u16 8202)) (c11 : w.cell? ⟨R, oR + 11, none⟩ = some (.int .u16 1)) (c12 : w.cell? ⟨R, oR + 12, none⟩ = some (.int .u16 8232)) (c13 : w.cell? ⟨R, oR + 13, none⟩ = some (.int .u16 8233)) (c14 : w.cell? ⟨R, oR + 14, none⟩ = some (.int .u16 1)) (c15 : w.cell? ⟨R, oR + 15, none⟩ = some (.int .u16 8239)) (c16 : w.cell? ⟨R, oR + 16, none⟩ = some (.int .u16 8287)) (c17 : w.cell? ⟨R, oR + 17, none⟩ = some (.int .u16 48)) (c18 : w.cell? ⟨R, oR + 18, none⟩ = some (.int .u16 12288)) (c19 : w.cell? ⟨R, oR + 19, none⟩ = some (.int .u16 12288)) (c20 : w.cell? ⟨R, oR + 20, none⟩ = some (.int .u16 1)) :
    Calls Tryd.prog 9 #[.slice (some ⟨R, oR + 6, none⟩) 5 5, .int .u16 z] w fun e w' => e = .returned (.bool (Lib.isSpaceR z)) ∧ Below w.heap.size w w' := Any.unicode_is16_white Tryd.lays311 R oR z w hz hz0 c6 c7 c8 c9 c10 c11 c12 c13 c14 c15 c16 c17 c18 c19 c20
def Tryd.lays261_ren : Go.Shelf.Ren := ⟨fun | 261 => 8 | 311 => 9 | 312 => 10 | n => n, fun | 141 => 26 | 21 => 21 | 4 => 4 | 0 => 0 | 196 => 30 | 193 => 27 | 3 => 3 | 51 => 23 | 198 => 33 | 49 => 31 | 194 => 28 | 201 => 36 | 226 => 38 | 46 => 39 | 227 => 40 | n => n, fun | n => n⟩
theorem Tryd.lays261 : Go.Proofs.Lays.n261 Tryd.prog Tryd.lays261_ren := {
  mixed := by kernel_rfl
  f261 := Tryd.func8.trans (congrArg some (by kernel_rfl))
  f311 := Tryd.func9.trans (congrArg some (by kernel_rfl))
  f312 := Tryd.func10.trans (congrArg some (by kernel_rfl))
  t0 := Tryd.underlying0
  a0 := Tryd.isAgg0
  z0 := Tryd.sizeOf0
  v0 := Tryd.zeroValue0
  t3 := Tryd.underlying3
  a3 := Tryd.isAgg3
  z3 := Tryd.sizeOf3
  v3 := Tryd.zeroValue3
  t4 := Tryd.underlying4
  a4 := Tryd.isAgg4
  z4 := Tryd.sizeOf4
  v4 := Tryd.zeroValue4
  t21 := Tryd.underlying21
  a21 := Tryd.isAgg21
  z21 := Tryd.sizeOf21
  v21 := Tryd.zeroValue21
  t46 := Tryd.underlying39
  a46 := Tryd.isAgg39
  z46 := Tryd.sizeOf39
  v46 := Tryd.zeroValue39
  t49 := Tryd.underlying31
  a49 := Tryd.isAgg31
  z49 := Tryd.sizeOf31
  v49 := Tryd.zeroValue31
  t51 := Tryd.underlying23
  a51 := Tryd.isAgg23
  z51 := Tryd.sizeOf23
  v51 := Tryd.zeroValue23
  t141 := Tryd.underlying26
  a141 := Tryd.isAgg26
  z141 := Tryd.sizeOf26
  v141 := Tryd.zeroValue26
  t193 := Tryd.underlying27
  a193 := Tryd.isAgg27
  z193 := Tryd.sizeOf27
  v193 := Tryd.zeroValue27
  t194 := Tryd.underlying28
  a194 := Tryd.isAgg28
  z194 := Tryd.sizeOf28
  v194 := Tryd.zeroValue28
  t196 := Tryd.underlying30
  a196 := Tryd.isAgg30
  z196 := Tryd.sizeOf30
  v196 := Tryd.zeroValue30
  t198 := Tryd.underlying33
  a198 := Tryd.isAgg33
  z198 := Tryd.sizeOf33
  v198 := Tryd.zeroValue33
  t201 := Tryd.underlying36
  a201 := Tryd.isAgg36
  z201 := Tryd.sizeOf36
  v201 := Tryd.zeroValue36
  t226 := Tryd.underlying38
  a226 := Tryd.isAgg38
  z226 := Tryd.sizeOf38
  v226 := Tryd.zeroValue38
  t227 := Tryd.underlying40
  a227 := Tryd.isAgg40
  z227 := Tryd.sizeOf40
  v227 := Tryd.zeroValue40 }
open Go.RowKit Go.Lib in
/-- unicode.isExcludingLatin(White_Space, r), r beyond U+00FF or negative. (LAID: no walk: one application.) -/
theorem Tryd.unicode_isExcludingLatin_white (T oT R oR : Nat) (r : Int) (w : World) (hlo : -2147483648 ≤ r) (hhi : r ≤ 2147483647) (hr : r < 0 ∨ 255 < r) (h2 : w.cell? ⟨T, oT, none⟩ = some (.slice (some ⟨R, oR, none⟩) 7 7)) (h3 : w.cell? ⟨T, oT + 1, none⟩ = some (.slice none 0 0)) (h4 : w.cell? ⟨T, oT + 2, none⟩ = some (.int .i64 2)) (h5 : ∀ i, i < 21 → w.cell? ⟨R, oR + i, none⟩ = some (.int .u16 (whiteT.getD i 0))) :
    Calls Tryd.prog 8 #[.pointer (some ⟨T, oT, none⟩), .int .i32 r] w fun e w' => e = .returned (.bool (Lib.isSpaceZ r)) ∧ Below w.heap.size w w' := Any.unicode_isExcludingLatin_white Tryd.lays261 T oT R oR r w hlo hhi hr h2 h3 h4 h5
open Go.RowKit Go.Lib in
theorem Tryd.unicode_is16_any (T : Array Rg) (R oR cap : Nat) (z : Nat) (w : World) (hz : z < 65536) (hT : RgTab .u16 R oR T w) (hok : RgOk 65536 T) (hn : T.size ≤ 1000000000) :
    Calls Tryd.prog 9 #[.slice (some ⟨R, oR, none⟩) T.size cap, .int .u16 z] w fun e w' => e = .returned (.bool (is16Go T z)) ∧ ∃ q, w' = w.drewN q := Any.unicode_is16_any Tryd.lays311 T R oR cap z w hz hT hok hn
def Tryd.lays312_ren : Go.Shelf.Ren := ⟨fun | 312 => 10 | n => n, fun | 194 => 28 | 51 => 23 | 4 => 4 | 3 => 3 | 0 => 0 | 227 => 40 | 201 => 36 | 46 => 39 | n => n, fun | n => n⟩
theorem Tryd.lays312 : Go.Proofs.Lays.n312 Tryd.prog Tryd.lays312_ren := {
  mixed := by kernel_rfl
  f312 := Tryd.func10.trans (congrArg some (by kernel_rfl))
  t0 := Tryd.underlying0
  a0 := Tryd.isAgg0
  z0 := Tryd.sizeOf0
  v0 := Tryd.zeroValue0
  t3 := Tryd.underlying3
  a3 := Tryd.isAgg3
  z3 := Tryd.sizeOf3
  v3 := Tryd.zeroValue3
  t4 := Tryd.underlying4
  a4 := Tryd.isAgg4
  z4 := Tryd.sizeOf4
  v4 := Tryd.zeroValue4
  t46 := Tryd.underlying39
  a46 := Tryd.isAgg39
  z46 := Tryd.sizeOf39
  v46 := Tryd.zeroValue39
  t51 := Tryd.underlying23
  a51 := Tryd.isAgg23
  z51 := Tryd.sizeOf23
  v51 := Tryd.zeroValue23
  t194 := Tryd.underlying28
  a194 := Tryd.isAgg28
  z194 := Tryd.sizeOf28
  v194 := Tryd.zeroValue28
  t201 := Tryd.underlying36
  a201 := Tryd.isAgg36
  z201 := Tryd.sizeOf36
  v201 := Tryd.zeroValue36
  t227 := Tryd.underlying40
  a227 := Tryd.isAgg40
  z227 := Tryd.sizeOf40
  v227 := Tryd.zeroValue40 }
open Go.RowKit Go.Lib in
theorem Tryd.unicode_is32_any (T : Array Rg) (R oR cap : Nat) (z : Nat) (w : World) (hz : z < 4294967296) (hT : RgTab .u32 R oR T w) (hok : RgOk 4294967296 T) (hn : T.size ≤ 1000000000) :
    Calls Tryd.prog 10 #[.slice (some ⟨R, oR, none⟩) T.size cap, .int .u32 z] w fun e w' => e = .returned (.bool (is32Go T z)) ∧ Below w.heap.size w w' := Any.unicode_is32_any Tryd.lays312 T R oR cap z w hz hT hok hn
open Go.RowKit Go.Lib in
theorem Tryd.unicode_isExcludingLatin_any (Tb oT : Nat) (T : RTab) (r : Int) (w : World) (hlo : -2147483648 ≤ r) (hhi : r ≤ 2147483647) (hA : RTabAt Tb oT T w) (hok : RTabOk T) :
    Calls Tryd.prog 8 #[.pointer (some ⟨Tb, oT, none⟩), .int .i32 r] w fun e w' => e = .returned (.bool (exclGo T r)) ∧ Below w.heap.size w w' := Any.unicode_isExcludingLatin_any Tryd.lays261 Tb oT T r w hlo hhi hA hok
open Go.RowKit Go.Lib in
/-- unicode.IsLetter(r) AT EVERY int32, over whatever table the variable unicode.Letter leads to. (LAID: no walk: one application.) -/
theorem Tryd.unicode_IsLetter_any (T : RTab) (r : Int) (w : World) (hlo : -2147483648 ≤ r) (hhi : r ≤ 2147483647) (htab : Lib.TabIs Tryd.prog w "unicode.properties" .u8 Lib.propertiesTab) (hV : RVar 1 T w) (hok : RTabOk T) :
    Calls Tryd.prog 7 #[.int .i32 r] w fun e w' => e = .returned (.bool (if latin1 r then isLetterL r else exclGo T r)) ∧ Below w.heap.size w w' := Any.unicode_IsLetter_any Tryd.lays200 (by kernel_rfl) T r w hlo hhi htab hV hok
open Go.RowKit Go.Lib in
/-- unicode.IsLetter(r) AT EVERY int32, the tables as their initialisers lay them: 'Lib.isLetterU r'. (LAID: no walk: one application.) -/
theorem Tryd.unicode_IsLetter_all (r : Int) (w : World) (hlo : -2147483648 ≤ r) (hhi : r ≤ 2147483647) (htab : Lib.TabIs Tryd.prog w "unicode.properties" .u8 Lib.propertiesTab) (hV : RVar 1 letterT w) :
    Calls Tryd.prog 7 #[.int .i32 r] w fun e w' => e = .returned (.bool (isLetterU r)) ∧ Below w.heap.size w w' := Any.unicode_IsLetter_all Tryd.lays200 (by kernel_rfl) r w hlo hhi htab hV
end Go.Proofs
