/-
  DERIVED: THE SHELF's CONTRACTS AT THIS DUMP, IN PLAIN WORDS (tools/lay-plain.mjs out of 'TryfShelf.lean', which tools/lay-shelf.mjs wrote): THE SAME DECLARATIONS UNDER THE SAME NAMES: 'import', 'namespace', 'open', 'def', 'theorem' AND NOTHING ELSE: no command of the shelf's: FOR A HAND-IN. Each laying: the table of numbers ('.._ren') and one theorem, a field a fact of the dump's own or the kernel's comparison; each contract: ONE APPLICATION.
-/
import Derived.Shelf.Spec.DecodeRune
import Derived.Shelf.Unicode.Latin
import Derived.Shelf.Unicode.Props
import Derived.Shelf.Unicode.Is16White
import Derived.Shelf.Unicode.IsSpaceAny
import Derived.Shelf.Unicode.Is16Any
import Derived.Shelf.Unicode.Is32Any
import Derived.Shelf.Unicode.ExclAny
import Derived.Shelf.Unicode.PredsAny
import Derived.Shelf.Unicode.PredsPay
import Derived.Test.YtmlbaninhkcpgaaFmtProg
namespace Go.Proofs
open Go.Shelf
def Tryf.lays198_ren : Go.Shelf.Ren := ⟨fun | 198 => 43 | 261 => 42 | 311 => 46 | 312 => 47 | n => n, fun | 21 => 21 | 4 => 4 | 141 => 73 | 0 => 0 | 196 => 82 | 193 => 79 | 3 => 3 | 51 => 70 | 198 => 85 | 49 => 83 | 194 => 80 | 201 => 88 | 226 => 92 | 46 => 75 | 227 => 93 | n => n, fun | 5 => 5 | n => n⟩
theorem Tryf.lays198 : Go.Proofs.Lays.n198 Tryf.prog Tryf.lays198_ren := {
  mixed := by kernel_rfl
  f198 := Tryf.func43.trans (congrArg some (by kernel_rfl))
  f261 := Tryf.func42.trans (congrArg some (by kernel_rfl))
  f311 := Tryf.func46.trans (congrArg some (by kernel_rfl))
  f312 := Tryf.func47.trans (congrArg some (by kernel_rfl))
  t0 := Tryf.underlying0
  a0 := Tryf.isAgg0
  z0 := Tryf.sizeOf0
  v0 := Tryf.zeroValue0
  t3 := Tryf.underlying3
  a3 := Tryf.isAgg3
  z3 := Tryf.sizeOf3
  v3 := Tryf.zeroValue3
  t4 := Tryf.underlying4
  a4 := Tryf.isAgg4
  z4 := Tryf.sizeOf4
  v4 := Tryf.zeroValue4
  t21 := Tryf.underlying21
  a21 := Tryf.isAgg21
  z21 := Tryf.sizeOf21
  v21 := Tryf.zeroValue21
  t46 := Tryf.underlying75
  a46 := Tryf.isAgg75
  z46 := Tryf.sizeOf75
  v46 := Tryf.zeroValue75
  t49 := Tryf.underlying83
  a49 := Tryf.isAgg83
  z49 := Tryf.sizeOf83
  v49 := Tryf.zeroValue83
  t51 := Tryf.underlying70
  a51 := Tryf.isAgg70
  z51 := Tryf.sizeOf70
  v51 := Tryf.zeroValue70
  t141 := Tryf.underlying73
  a141 := Tryf.isAgg73
  z141 := Tryf.sizeOf73
  v141 := Tryf.zeroValue73
  t193 := Tryf.underlying79
  a193 := Tryf.isAgg79
  z193 := Tryf.sizeOf79
  v193 := Tryf.zeroValue79
  t194 := Tryf.underlying80
  a194 := Tryf.isAgg80
  z194 := Tryf.sizeOf80
  v194 := Tryf.zeroValue80
  t196 := Tryf.underlying82
  a196 := Tryf.isAgg82
  z196 := Tryf.sizeOf82
  v196 := Tryf.zeroValue82
  t198 := Tryf.underlying85
  a198 := Tryf.isAgg85
  z198 := Tryf.sizeOf85
  v198 := Tryf.zeroValue85
  t201 := Tryf.underlying88
  a201 := Tryf.isAgg88
  z201 := Tryf.sizeOf88
  v201 := Tryf.zeroValue88
  t226 := Tryf.underlying92
  a226 := Tryf.isAgg92
  z226 := Tryf.sizeOf92
  v226 := Tryf.zeroValue92
  t227 := Tryf.underlying93
  a227 := Tryf.isAgg93
  z227 := Tryf.sizeOf93
  v227 := Tryf.zeroValue93
  g5 := by kernel_rfl }
open Go.RowKit Go.Lib in
theorem Tryf.unicode_IsDigit (r : Int) (w : World) (h : r ≤ 255) :
    Calls Tryf.prog 43 #[.int .i32 r] w fun e w' => e = .returned (.bool (Lib.isDigitL r)) ∧ w' = w := Any.unicode_IsDigit Tryf.lays198 r w h
def Tryf.lays200_ren : Go.Shelf.Ren := ⟨fun | 200 => 33 | 261 => 42 | 311 => 46 | 312 => 47 | n => n, fun | 21 => 21 | 4 => 4 | 51 => 70 | 5 => 5 | 119 => 71 | 0 => 0 | 141 => 73 | 196 => 82 | 193 => 79 | 3 => 3 | 198 => 85 | 49 => 83 | 194 => 80 | 201 => 88 | 226 => 92 | 46 => 75 | 227 => 93 | n => n, fun | 7 => 1 | 8 => 2 | n => n⟩
theorem Tryf.lays200 : Go.Proofs.Lays.n200 Tryf.prog Tryf.lays200_ren := {
  mixed := by kernel_rfl
  f200 := Tryf.func33.trans (congrArg some (by kernel_rfl))
  f261 := Tryf.func42.trans (congrArg some (by kernel_rfl))
  f311 := Tryf.func46.trans (congrArg some (by kernel_rfl))
  f312 := Tryf.func47.trans (congrArg some (by kernel_rfl))
  t0 := Tryf.underlying0
  a0 := Tryf.isAgg0
  z0 := Tryf.sizeOf0
  v0 := Tryf.zeroValue0
  t3 := Tryf.underlying3
  a3 := Tryf.isAgg3
  z3 := Tryf.sizeOf3
  v3 := Tryf.zeroValue3
  t4 := Tryf.underlying4
  a4 := Tryf.isAgg4
  z4 := Tryf.sizeOf4
  v4 := Tryf.zeroValue4
  t5 := Tryf.underlying5
  a5 := Tryf.isAgg5
  z5 := Tryf.sizeOf5
  v5 := Tryf.zeroValue5
  t21 := Tryf.underlying21
  a21 := Tryf.isAgg21
  z21 := Tryf.sizeOf21
  v21 := Tryf.zeroValue21
  t46 := Tryf.underlying75
  a46 := Tryf.isAgg75
  z46 := Tryf.sizeOf75
  v46 := Tryf.zeroValue75
  t49 := Tryf.underlying83
  a49 := Tryf.isAgg83
  z49 := Tryf.sizeOf83
  v49 := Tryf.zeroValue83
  t51 := Tryf.underlying70
  a51 := Tryf.isAgg70
  z51 := Tryf.sizeOf70
  v51 := Tryf.zeroValue70
  t119 := Tryf.underlying71
  a119 := Tryf.isAgg71
  z119 := Tryf.sizeOf71
  t141 := Tryf.underlying73
  a141 := Tryf.isAgg73
  z141 := Tryf.sizeOf73
  v141 := Tryf.zeroValue73
  t193 := Tryf.underlying79
  a193 := Tryf.isAgg79
  z193 := Tryf.sizeOf79
  v193 := Tryf.zeroValue79
  t194 := Tryf.underlying80
  a194 := Tryf.isAgg80
  z194 := Tryf.sizeOf80
  v194 := Tryf.zeroValue80
  t196 := Tryf.underlying82
  a196 := Tryf.isAgg82
  z196 := Tryf.sizeOf82
  v196 := Tryf.zeroValue82
  t198 := Tryf.underlying85
  a198 := Tryf.isAgg85
  z198 := Tryf.sizeOf85
  v198 := Tryf.zeroValue85
  t201 := Tryf.underlying88
  a201 := Tryf.isAgg88
  z201 := Tryf.sizeOf88
  v201 := Tryf.zeroValue88
  t226 := Tryf.underlying92
  a226 := Tryf.isAgg92
  z226 := Tryf.sizeOf92
  v226 := Tryf.zeroValue92
  t227 := Tryf.underlying93
  a227 := Tryf.isAgg93
  z227 := Tryf.sizeOf93
  v227 := Tryf.zeroValue93
  g7 := by kernel_rfl
  g8 := by kernel_rfl }
open Go.RowKit Go.Lib in
theorem Tryf.unicode_IsLetter (c : Nat) (w : World) (hc : c < 256) (htab : Lib.TabIs Tryf.prog w "unicode.properties" .u8 Lib.propertiesTab) :
    Calls Tryf.prog 33 #[.int .i32 c] w fun e w' => e = .returned (.bool (Lib.isLetterL c)) ∧ w' = w := Any.unicode_IsLetter Tryf.lays200 (by kernel_rfl) c w hc htab
def Tryf.lays311_ren : Go.Shelf.Ren := ⟨fun | 311 => 46 | n => n, fun | 193 => 79 | 49 => 83 | 4 => 4 | 3 => 3 | 0 => 0 | 226 => 92 | 198 => 85 | 46 => 75 | n => n, fun | n => n⟩
theorem Tryf.lays311 : Go.Proofs.Lays.n311 Tryf.prog Tryf.lays311_ren := {
  mixed := by kernel_rfl
  f311 := Tryf.func46.trans (congrArg some (by kernel_rfl))
  t0 := Tryf.underlying0
  a0 := Tryf.isAgg0
  z0 := Tryf.sizeOf0
  v0 := Tryf.zeroValue0
  t3 := Tryf.underlying3
  a3 := Tryf.isAgg3
  z3 := Tryf.sizeOf3
  v3 := Tryf.zeroValue3
  t4 := Tryf.underlying4
  a4 := Tryf.isAgg4
  z4 := Tryf.sizeOf4
  v4 := Tryf.zeroValue4
  t46 := Tryf.underlying75
  a46 := Tryf.isAgg75
  z46 := Tryf.sizeOf75
  v46 := Tryf.zeroValue75
  t49 := Tryf.underlying83
  a49 := Tryf.isAgg83
  z49 := Tryf.sizeOf83
  v49 := Tryf.zeroValue83
  t193 := Tryf.underlying79
  a193 := Tryf.isAgg79
  z193 := Tryf.sizeOf79
  v193 := Tryf.zeroValue79
  t198 := Tryf.underlying85
  a198 := Tryf.isAgg85
  z198 := Tryf.sizeOf85
  v198 := Tryf.zeroValue85
  t226 := Tryf.underlying92
  a226 := Tryf.isAgg92
  z226 := Tryf.sizeOf92
  v226 := Tryf.zeroValue92 }
open Go.RowKit Go.Lib in
theorem Tryf.unicode_is16_white (R oR : Nat) (z : Nat) (w : World) (hz : z < 65536) (hz0 : 255 < z) (c6 : w.cell? ⟨R, oR + 6, none⟩ = some (.int .u16 160)) (c7 : w.cell? ⟨R, oR + 7, none⟩ = some (.int .u16 5760)) (c8 : w.cell? ⟨R, oR + 8, none⟩ = some (.int .u16 5600)) (c9 : w.cell? ⟨R, oR + 9, none⟩ = some (.int .u16 8192)) (c10 : w.cell? ⟨R, oR + 10, none⟩ = some (.int .u16 8202)) (c11 : w.cell? ⟨R, oR + 11, none⟩ = some (.int .u16 1)) (c12 : w.cell? ⟨R, oR + 12, none⟩ = some (.int .u16 8232)) (c13 : w.cell? ⟨R, oR + 13, none⟩ = some (.int .u16 8233)) (c14 : w.cell? ⟨R, oR + 14, none⟩ = some (.int .u16 1)) (c15 : w.cell? ⟨R, oR + 15, none⟩ = some (.int .u16 8239)) (c16 : w.cell? ⟨R, oR + 16, none⟩ = some (.int .u16 8287)) (c17 : w.cell? ⟨R, oR + 17, none⟩ = some (.int .u16 48)) (c18 : w.cell? ⟨R, oR + 18, none⟩ = some (.int .u16 12288)) (c19 : w.cell? ⟨R, oR + 19, none⟩ = some (.int .u16 12288)) (c20 : w.cell? ⟨R, oR + 20, none⟩ = some (.int .u16 1)) :
    Calls Tryf.prog 46 #[.slice (some ⟨R, oR + 6, none⟩) 5 5, .int .u16 z] w fun e w' => e = .returned (.bool (Lib.isSpaceR z)) ∧ Below w.heap.size w w' := Any.unicode_is16_white Tryf.lays311 R oR z w hz hz0 c6 c7 c8 c9 c10 c11 c12 c13 c14 c15 c16 c17 c18 c19 c20
def Tryf.lays261_ren : Go.Shelf.Ren := ⟨fun | 261 => 42 | 311 => 46 | 312 => 47 | n => n, fun | 141 => 73 | 21 => 21 | 4 => 4 | 0 => 0 | 196 => 82 | 193 => 79 | 3 => 3 | 51 => 70 | 198 => 85 | 49 => 83 | 194 => 80 | 201 => 88 | 226 => 92 | 46 => 75 | 227 => 93 | n => n, fun | n => n⟩
theorem Tryf.lays261 : Go.Proofs.Lays.n261 Tryf.prog Tryf.lays261_ren := {
  mixed := by kernel_rfl
  f261 := Tryf.func42.trans (congrArg some (by kernel_rfl))
  f311 := Tryf.func46.trans (congrArg some (by kernel_rfl))
  f312 := Tryf.func47.trans (congrArg some (by kernel_rfl))
  t0 := Tryf.underlying0
  a0 := Tryf.isAgg0
  z0 := Tryf.sizeOf0
  v0 := Tryf.zeroValue0
  t3 := Tryf.underlying3
  a3 := Tryf.isAgg3
  z3 := Tryf.sizeOf3
  v3 := Tryf.zeroValue3
  t4 := Tryf.underlying4
  a4 := Tryf.isAgg4
  z4 := Tryf.sizeOf4
  v4 := Tryf.zeroValue4
  t21 := Tryf.underlying21
  a21 := Tryf.isAgg21
  z21 := Tryf.sizeOf21
  v21 := Tryf.zeroValue21
  t46 := Tryf.underlying75
  a46 := Tryf.isAgg75
  z46 := Tryf.sizeOf75
  v46 := Tryf.zeroValue75
  t49 := Tryf.underlying83
  a49 := Tryf.isAgg83
  z49 := Tryf.sizeOf83
  v49 := Tryf.zeroValue83
  t51 := Tryf.underlying70
  a51 := Tryf.isAgg70
  z51 := Tryf.sizeOf70
  v51 := Tryf.zeroValue70
  t141 := Tryf.underlying73
  a141 := Tryf.isAgg73
  z141 := Tryf.sizeOf73
  v141 := Tryf.zeroValue73
  t193 := Tryf.underlying79
  a193 := Tryf.isAgg79
  z193 := Tryf.sizeOf79
  v193 := Tryf.zeroValue79
  t194 := Tryf.underlying80
  a194 := Tryf.isAgg80
  z194 := Tryf.sizeOf80
  v194 := Tryf.zeroValue80
  t196 := Tryf.underlying82
  a196 := Tryf.isAgg82
  z196 := Tryf.sizeOf82
  v196 := Tryf.zeroValue82
  t198 := Tryf.underlying85
  a198 := Tryf.isAgg85
  z198 := Tryf.sizeOf85
  v198 := Tryf.zeroValue85
  t201 := Tryf.underlying88
  a201 := Tryf.isAgg88
  z201 := Tryf.sizeOf88
  v201 := Tryf.zeroValue88
  t226 := Tryf.underlying92
  a226 := Tryf.isAgg92
  z226 := Tryf.sizeOf92
  v226 := Tryf.zeroValue92
  t227 := Tryf.underlying93
  a227 := Tryf.isAgg93
  z227 := Tryf.sizeOf93
  v227 := Tryf.zeroValue93 }
open Go.RowKit Go.Lib in
/-- unicode.isExcludingLatin(White_Space, r), r beyond U+00FF or negative. (LAID: no walk: one application.) -/
theorem Tryf.unicode_isExcludingLatin_white (T oT R oR : Nat) (r : Int) (w : World) (hlo : -2147483648 ≤ r) (hhi : r ≤ 2147483647) (hr : r < 0 ∨ 255 < r) (h2 : w.cell? ⟨T, oT, none⟩ = some (.slice (some ⟨R, oR, none⟩) 7 7)) (h3 : w.cell? ⟨T, oT + 1, none⟩ = some (.slice none 0 0)) (h4 : w.cell? ⟨T, oT + 2, none⟩ = some (.int .i64 2)) (h5 : ∀ i, i < 21 → w.cell? ⟨R, oR + i, none⟩ = some (.int .u16 (whiteT.getD i 0))) :
    Calls Tryf.prog 42 #[.pointer (some ⟨T, oT, none⟩), .int .i32 r] w fun e w' => e = .returned (.bool (Lib.isSpaceZ r)) ∧ Below w.heap.size w w' := Any.unicode_isExcludingLatin_white Tryf.lays261 T oT R oR r w hlo hhi hr h2 h3 h4 h5
open Go.RowKit Go.Lib in
theorem Tryf.unicode_is16_any (T : Array Rg) (R oR cap : Nat) (z : Nat) (w : World) (hz : z < 65536) (hT : RgTab .u16 R oR T w) (hok : RgOk 65536 T) (hn : T.size ≤ 1000000000) :
    Calls Tryf.prog 46 #[.slice (some ⟨R, oR, none⟩) T.size cap, .int .u16 z] w fun e w' => e = .returned (.bool (is16Go T z)) ∧ ∃ q, w' = w.drewN q := Any.unicode_is16_any Tryf.lays311 T R oR cap z w hz hT hok hn
def Tryf.lays312_ren : Go.Shelf.Ren := ⟨fun | 312 => 47 | n => n, fun | 194 => 80 | 51 => 70 | 4 => 4 | 3 => 3 | 0 => 0 | 227 => 93 | 201 => 88 | 46 => 75 | n => n, fun | n => n⟩
theorem Tryf.lays312 : Go.Proofs.Lays.n312 Tryf.prog Tryf.lays312_ren := {
  mixed := by kernel_rfl
  f312 := Tryf.func47.trans (congrArg some (by kernel_rfl))
  t0 := Tryf.underlying0
  a0 := Tryf.isAgg0
  z0 := Tryf.sizeOf0
  v0 := Tryf.zeroValue0
  t3 := Tryf.underlying3
  a3 := Tryf.isAgg3
  z3 := Tryf.sizeOf3
  v3 := Tryf.zeroValue3
  t4 := Tryf.underlying4
  a4 := Tryf.isAgg4
  z4 := Tryf.sizeOf4
  v4 := Tryf.zeroValue4
  t46 := Tryf.underlying75
  a46 := Tryf.isAgg75
  z46 := Tryf.sizeOf75
  v46 := Tryf.zeroValue75
  t51 := Tryf.underlying70
  a51 := Tryf.isAgg70
  z51 := Tryf.sizeOf70
  v51 := Tryf.zeroValue70
  t194 := Tryf.underlying80
  a194 := Tryf.isAgg80
  z194 := Tryf.sizeOf80
  v194 := Tryf.zeroValue80
  t201 := Tryf.underlying88
  a201 := Tryf.isAgg88
  z201 := Tryf.sizeOf88
  v201 := Tryf.zeroValue88
  t227 := Tryf.underlying93
  a227 := Tryf.isAgg93
  z227 := Tryf.sizeOf93
  v227 := Tryf.zeroValue93 }
open Go.RowKit Go.Lib in
theorem Tryf.unicode_is32_any (T : Array Rg) (R oR cap : Nat) (z : Nat) (w : World) (hz : z < 4294967296) (hT : RgTab .u32 R oR T w) (hok : RgOk 4294967296 T) (hn : T.size ≤ 1000000000) :
    Calls Tryf.prog 47 #[.slice (some ⟨R, oR, none⟩) T.size cap, .int .u32 z] w fun e w' => e = .returned (.bool (is32Go T z)) ∧ Below w.heap.size w w' := Any.unicode_is32_any Tryf.lays312 T R oR cap z w hz hT hok hn
open Go.RowKit Go.Lib in
theorem Tryf.unicode_isExcludingLatin_any (Tb oT : Nat) (T : RTab) (r : Int) (w : World) (hlo : -2147483648 ≤ r) (hhi : r ≤ 2147483647) (hA : RTabAt Tb oT T w) (hok : RTabOk T) :
    Calls Tryf.prog 42 #[.pointer (some ⟨Tb, oT, none⟩), .int .i32 r] w fun e w' => e = .returned (.bool (exclGo T r)) ∧ Below w.heap.size w w' := Any.unicode_isExcludingLatin_any Tryf.lays261 Tb oT T r w hlo hhi hA hok
open Go.RowKit Go.Lib in
/-- unicode.IsLetter(r) AT EVERY int32, over whatever table the variable unicode.Letter leads to. (LAID: no walk: one application.) -/
theorem Tryf.unicode_IsLetter_any (T : RTab) (r : Int) (w : World) (hlo : -2147483648 ≤ r) (hhi : r ≤ 2147483647) (htab : Lib.TabIs Tryf.prog w "unicode.properties" .u8 Lib.propertiesTab) (hV : RVar 2 T w) (hok : RTabOk T) :
    Calls Tryf.prog 33 #[.int .i32 r] w fun e w' => e = .returned (.bool (if latin1 r then isLetterL r else exclGo T r)) ∧ Below w.heap.size w w' := Any.unicode_IsLetter_any Tryf.lays200 (by kernel_rfl) T r w hlo hhi htab hV hok
open Go.RowKit Go.Lib in
/-- unicode.IsDigit(r) AT EVERY int32, over whatever table the variable unicode.Digit leads to. (LAID: no walk: one application.) -/
theorem Tryf.unicode_IsDigit_any (T : RTab) (r : Int) (w : World) (hlo : -2147483648 ≤ r) (hhi : r ≤ 2147483647) (hV : RVar 5 T w) (hok : RTabOk T) :
    Calls Tryf.prog 43 #[.int .i32 r] w fun e w' => e = .returned (.bool (if r ≤ 255 then isDigitL r else exclGo T r)) ∧ Below w.heap.size w w' := Any.unicode_IsDigit_any Tryf.lays198 T r w hlo hhi hV hok
open Go.RowKit Go.Lib in
/-- unicode.IsLetter(r) AT EVERY int32, the tables as their initialisers lay them: 'Lib.isLetterU r'. (LAID: no walk: one application.) -/
theorem Tryf.unicode_IsLetter_all (r : Int) (w : World) (hlo : -2147483648 ≤ r) (hhi : r ≤ 2147483647) (htab : Lib.TabIs Tryf.prog w "unicode.properties" .u8 Lib.propertiesTab) (hV : RVar 2 letterT w) :
    Calls Tryf.prog 33 #[.int .i32 r] w fun e w' => e = .returned (.bool (isLetterU r)) ∧ Below w.heap.size w w' := Any.unicode_IsLetter_all Tryf.lays200 (by kernel_rfl) r w hlo hhi htab hV
open Go.RowKit Go.Lib in
/-- unicode.IsDigit(r) AT EVERY int32: 'Lib.isDigitU r'. (LAID: no walk: one application.) -/
theorem Tryf.unicode_IsDigit_all (r : Int) (w : World) (hlo : -2147483648 ≤ r) (hhi : r ≤ 2147483647) (hV : RVar 5 digitT w) :
    Calls Tryf.prog 43 #[.int .i32 r] w fun e w' => e = .returned (.bool (isDigitU r)) ∧ Below w.heap.size w w' := Any.unicode_IsDigit_all Tryf.lays198 r w hlo hhi hV
def Tryf.lays7n32_ren : Go.Shelf.Ren := ⟨fun | 32 => 32 | 49 => 41 | n => n, fun | 30 => 22 | 21 => 21 | 3 => 3 | 0 => 0 | 5 => 5 | 4 => 4 | 33 => 62 | 66 => 71 | 25 => 75 | 69 => 78 | 68 => 77 | n => n, fun | 2 => 3 | 3 => 4 | n => n⟩
theorem Tryf.lays7n32 : Go.Proofs.Lays7.n32 Tryf.prog Tryf.lays7n32_ren := {
  mixed := by kernel_rfl
  f32 := Tryf.func32.trans (congrArg some (by kernel_rfl))
  f49 := Tryf.func41.trans (congrArg some (by kernel_rfl))
  t0 := Tryf.underlying0
  a0 := Tryf.isAgg0
  z0 := Tryf.sizeOf0
  v0 := Tryf.zeroValue0
  i0 := by kernel_rfl
  t3 := Tryf.underlying3
  a3 := Tryf.isAgg3
  z3 := Tryf.sizeOf3
  v3 := Tryf.zeroValue3
  i3 := by kernel_rfl
  t4 := Tryf.underlying4
  a4 := Tryf.isAgg4
  z4 := Tryf.sizeOf4
  v4 := Tryf.zeroValue4
  i4 := by kernel_rfl
  t5 := Tryf.underlying5
  a5 := Tryf.isAgg5
  z5 := Tryf.sizeOf5
  v5 := Tryf.zeroValue5
  i5 := by kernel_rfl
  t21 := Tryf.underlying21
  a21 := Tryf.isAgg21
  z21 := Tryf.sizeOf21
  v21 := Tryf.zeroValue21
  i21 := by kernel_rfl
  t25 := Tryf.underlying75
  a25 := Tryf.isAgg75
  z25 := Tryf.sizeOf75
  v25 := Tryf.zeroValue75
  i25 := by kernel_rfl
  t30 := Tryf.underlying22
  a30 := Tryf.isAgg22
  z30 := Tryf.sizeOf22
  v30 := Tryf.zeroValue22
  i30 := by kernel_rfl
  t33 := Tryf.underlying62
  a33 := Tryf.isAgg62
  z33 := Tryf.sizeOf62
  v33 := Tryf.zeroValue62
  i33 := by kernel_rfl
  t66 := Tryf.underlying71
  a66 := Tryf.isAgg71
  z66 := Tryf.sizeOf71
  t68 := Tryf.underlying77
  a68 := Tryf.isAgg77
  z68 := Tryf.sizeOf77
  v68 := Tryf.zeroValue77
  i68 := by kernel_rfl
  t69 := Tryf.underlying78
  a69 := Tryf.isAgg78
  z69 := Tryf.sizeOf78
  v69 := Tryf.zeroValue78
  i69 := by kernel_rfl
  g2 := by kernel_rfl
  g3 := by kernel_rfl }
open Go.RowKit Go.Lib in
theorem Tryf.utf8_DecodeRune (s : ByteArray) (b off cap : Nat) (w : World) (hT : Lib.Utf8Tabs 3 4 w) (hp : ∀ j, j < s.size → w.cell? ⟨b, off + j, none⟩ = some (.int .u8 (s.get! j).toNat)) :
    Calls Tryf.prog 32 #[.slice (some ⟨b, off, none⟩) s.size cap] w fun e w' => e = .returned (.tuple #[.int .i32 (Lib.decodeGo s).1, .int .i64 (Lib.decodeGo s).2]) ∧ Below w.heap.size w w' := Any7.utf8_DecodeRune Tryf.lays7n32 s b off cap w hT hp
end Go.Proofs
