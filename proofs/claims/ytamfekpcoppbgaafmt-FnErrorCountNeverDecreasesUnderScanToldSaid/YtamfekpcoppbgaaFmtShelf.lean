/-
  DERIVED: THE SHELF's CONTRACTS AT THIS DUMP, IN PLAIN WORDS (tools/lay-plain.mjs out of 'TryfShelf.lean', which tools/lay-shelf.mjs wrote): THE SAME DECLARATIONS UNDER THE SAME NAMES: 'import', 'namespace', 'open', 'def', 'theorem' AND NOTHING ELSE: no command of the shelf's: FOR A HAND-IN. Each laying: the table of numbers ('.._ren') and one theorem, a field a fact of the dump's own or the kernel's comparison; each contract: ONE APPLICATION.
-/
import Derived.Shelf.Spec.DecodeRune
import Derived.Shelf.Unicode.Latin
import Derived.Shelf.Unicode.Props
import Derived.Shelf.Unicode.Is16White
import Derived.Shelf.Unicode.IsSpaceAny
import Derived.Shelf.Unicode.Is16Any
import Derived.Shelf.Unicode.Is32Any
import Derived.Shelf.Unicode.ExclAny
import Derived.Shelf.Unicode.PredsAny
import Derived.Shelf.Unicode.PredsPay
import Derived.Test.YtamfekpcoppbgaaFmtProg
namespace Go.Proofs
open Go.Shelf
def Tryf.lays198_ren : Go.Shelf.Ren := ⟨fun | 198 => 63 | 261 => 62 | 311 => 67 | 312 => 68 | n => n, fun | 21 => 21 | 4 => 4 | 141 => 91 | 0 => 0 | 196 => 96 | 193 => 93 | 3 => 3 | 51 => 88 | 198 => 99 | 49 => 97 | 194 => 94 | 201 => 102 | 226 => 109 | 46 => 87 | 227 => 110 | n => n, fun | 5 => 3 | n => n⟩
theorem Tryf.lays198 : Go.Proofs.Lays.n198 Tryf.prog Tryf.lays198_ren := {
  mixed := by kernel_rfl
  f198 := Tryf.func63.trans (congrArg some (by kernel_rfl))
  f261 := Tryf.func62.trans (congrArg some (by kernel_rfl))
  f311 := Tryf.func67.trans (congrArg some (by kernel_rfl))
  f312 := Tryf.func68.trans (congrArg some (by kernel_rfl))
  t0 := Tryf.underlying0
  a0 := Tryf.isAgg0
  z0 := Tryf.sizeOf0
  v0 := Tryf.zeroValue0
  t3 := Tryf.underlying3
  a3 := Tryf.isAgg3
  z3 := Tryf.sizeOf3
  v3 := Tryf.zeroValue3
  t4 := Tryf.underlying4
  a4 := Tryf.isAgg4
  z4 := Tryf.sizeOf4
  v4 := Tryf.zeroValue4
  t21 := Tryf.underlying21
  a21 := Tryf.isAgg21
  z21 := Tryf.sizeOf21
  v21 := Tryf.zeroValue21
  t46 := Tryf.underlying87
  a46 := Tryf.isAgg87
  z46 := Tryf.sizeOf87
  v46 := Tryf.zeroValue87
  t49 := Tryf.underlying97
  a49 := Tryf.isAgg97
  z49 := Tryf.sizeOf97
  v49 := Tryf.zeroValue97
  t51 := Tryf.underlying88
  a51 := Tryf.isAgg88
  z51 := Tryf.sizeOf88
  v51 := Tryf.zeroValue88
  t141 := Tryf.underlying91
  a141 := Tryf.isAgg91
  z141 := Tryf.sizeOf91
  v141 := Tryf.zeroValue91
  t193 := Tryf.underlying93
  a193 := Tryf.isAgg93
  z193 := Tryf.sizeOf93
  v193 := Tryf.zeroValue93
  t194 := Tryf.underlying94
  a194 := Tryf.isAgg94
  z194 := Tryf.sizeOf94
  v194 := Tryf.zeroValue94
  t196 := Tryf.underlying96
  a196 := Tryf.isAgg96
  z196 := Tryf.sizeOf96
  v196 := Tryf.zeroValue96
  t198 := Tryf.underlying99
  a198 := Tryf.isAgg99
  z198 := Tryf.sizeOf99
  v198 := Tryf.zeroValue99
  t201 := Tryf.underlying102
  a201 := Tryf.isAgg102
  z201 := Tryf.sizeOf102
  v201 := Tryf.zeroValue102
  t226 := Tryf.underlying109
  a226 := Tryf.isAgg109
  z226 := Tryf.sizeOf109
  v226 := Tryf.zeroValue109
  t227 := Tryf.underlying110
  a227 := Tryf.isAgg110
  z227 := Tryf.sizeOf110
  v227 := Tryf.zeroValue110
  g5 := by kernel_rfl }
open Go.RowKit Go.Lib in
theorem Tryf.unicode_IsDigit (r : Int) (w : World) (h : r ≤ 255) :
    Calls Tryf.prog 63 #[.int .i32 r] w fun e w' => e = .returned (.bool (Lib.isDigitL r)) ∧ w' = w := Any.unicode_IsDigit Tryf.lays198 r w h
def Tryf.lays200_ren : Go.Shelf.Ren := ⟨fun | 200 => 51 | 261 => 62 | 311 => 67 | 312 => 68 | n => n, fun | 21 => 21 | 4 => 4 | 51 => 88 | 5 => 5 | 119 => 89 | 0 => 0 | 141 => 91 | 196 => 96 | 193 => 93 | 3 => 3 | 198 => 99 | 49 => 97 | 194 => 94 | 201 => 102 | 226 => 109 | 46 => 87 | 227 => 110 | n => n, fun | 7 => 1 | 8 => 2 | n => n⟩
theorem Tryf.lays200 : Go.Proofs.Lays.n200 Tryf.prog Tryf.lays200_ren := {
  mixed := by kernel_rfl
  f200 := Tryf.func51.trans (congrArg some (by kernel_rfl))
  f261 := Tryf.func62.trans (congrArg some (by kernel_rfl))
  f311 := Tryf.func67.trans (congrArg some (by kernel_rfl))
  f312 := Tryf.func68.trans (congrArg some (by kernel_rfl))
  t0 := Tryf.underlying0
  a0 := Tryf.isAgg0
  z0 := Tryf.sizeOf0
  v0 := Tryf.zeroValue0
  t3 := Tryf.underlying3
  a3 := Tryf.isAgg3
  z3 := Tryf.sizeOf3
  v3 := Tryf.zeroValue3
  t4 := Tryf.underlying4
  a4 := Tryf.isAgg4
  z4 := Tryf.sizeOf4
  v4 := Tryf.zeroValue4
  t5 := Tryf.underlying5
  a5 := Tryf.isAgg5
  z5 := Tryf.sizeOf5
  v5 := Tryf.zeroValue5
  t21 := Tryf.underlying21
  a21 := Tryf.isAgg21
  z21 := Tryf.sizeOf21
  v21 := Tryf.zeroValue21
  t46 := Tryf.underlying87
  a46 := Tryf.isAgg87
  z46 := Tryf.sizeOf87
  v46 := Tryf.zeroValue87
  t49 := Tryf.underlying97
  a49 := Tryf.isAgg97
  z49 := Tryf.sizeOf97
  v49 := Tryf.zeroValue97
  t51 := Tryf.underlying88
  a51 := Tryf.isAgg88
  z51 := Tryf.sizeOf88
  v51 := Tryf.zeroValue88
  t119 := Tryf.underlying89
  a119 := Tryf.isAgg89
  z119 := Tryf.sizeOf89
  t141 := Tryf.underlying91
  a141 := Tryf.isAgg91
  z141 := Tryf.sizeOf91
  v141 := Tryf.zeroValue91
  t193 := Tryf.underlying93
  a193 := Tryf.isAgg93
  z193 := Tryf.sizeOf93
  v193 := Tryf.zeroValue93
  t194 := Tryf.underlying94
  a194 := Tryf.isAgg94
  z194 := Tryf.sizeOf94
  v194 := Tryf.zeroValue94
  t196 := Tryf.underlying96
  a196 := Tryf.isAgg96
  z196 := Tryf.sizeOf96
  v196 := Tryf.zeroValue96
  t198 := Tryf.underlying99
  a198 := Tryf.isAgg99
  z198 := Tryf.sizeOf99
  v198 := Tryf.zeroValue99
  t201 := Tryf.underlying102
  a201 := Tryf.isAgg102
  z201 := Tryf.sizeOf102
  v201 := Tryf.zeroValue102
  t226 := Tryf.underlying109
  a226 := Tryf.isAgg109
  z226 := Tryf.sizeOf109
  v226 := Tryf.zeroValue109
  t227 := Tryf.underlying110
  a227 := Tryf.isAgg110
  z227 := Tryf.sizeOf110
  v227 := Tryf.zeroValue110
  g7 := by kernel_rfl
  g8 := by kernel_rfl }
open Go.RowKit Go.Lib in
theorem Tryf.unicode_IsLetter (c : Nat) (w : World) (hc : c < 256) (htab : Lib.TabIs Tryf.prog w "unicode.properties" .u8 Lib.propertiesTab) :
    Calls Tryf.prog 51 #[.int .i32 c] w fun e w' => e = .returned (.bool (Lib.isLetterL c)) ∧ w' = w := Any.unicode_IsLetter Tryf.lays200 (by kernel_rfl) c w hc htab
def Tryf.lays311_ren : Go.Shelf.Ren := ⟨fun | 311 => 67 | n => n, fun | 193 => 93 | 49 => 97 | 4 => 4 | 3 => 3 | 0 => 0 | 226 => 109 | 198 => 99 | 46 => 87 | n => n, fun | n => n⟩
theorem Tryf.lays311 : Go.Proofs.Lays.n311 Tryf.prog Tryf.lays311_ren := {
  mixed := by kernel_rfl
  f311 := Tryf.func67.trans (congrArg some (by kernel_rfl))
  t0 := Tryf.underlying0
  a0 := Tryf.isAgg0
  z0 := Tryf.sizeOf0
  v0 := Tryf.zeroValue0
  t3 := Tryf.underlying3
  a3 := Tryf.isAgg3
  z3 := Tryf.sizeOf3
  v3 := Tryf.zeroValue3
  t4 := Tryf.underlying4
  a4 := Tryf.isAgg4
  z4 := Tryf.sizeOf4
  v4 := Tryf.zeroValue4
  t46 := Tryf.underlying87
  a46 := Tryf.isAgg87
  z46 := Tryf.sizeOf87
  v46 := Tryf.zeroValue87
  t49 := Tryf.underlying97
  a49 := Tryf.isAgg97
  z49 := Tryf.sizeOf97
  v49 := Tryf.zeroValue97
  t193 := Tryf.underlying93
  a193 := Tryf.isAgg93
  z193 := Tryf.sizeOf93
  v193 := Tryf.zeroValue93
  t198 := Tryf.underlying99
  a198 := Tryf.isAgg99
  z198 := Tryf.sizeOf99
  v198 := Tryf.zeroValue99
  t226 := Tryf.underlying109
  a226 := Tryf.isAgg109
  z226 := Tryf.sizeOf109
  v226 := Tryf.zeroValue109 }
open Go.RowKit Go.Lib in
theorem Tryf.unicode_is16_white (R oR : Nat) (z : Nat) (w : World) (hz : z < 65536) (hz0 : 255 < z) (c6 : w.cell? ⟨R, oR + 6, none⟩ = some (.int .u16 160)) (c7 : w.cell? ⟨R, oR + 7, none⟩ = some (.int .u16 5760)) (c8 : w.cell? ⟨R, oR + 8, none⟩ = some (.int .u16 5600)) (c9 : w.cell? ⟨R, oR + 9, none⟩ = some (.int .u16 8192)) (c10 : w.cell? ⟨R, oR + 10, none⟩ = some (.int .u16 8202)) (c11 : w.cell? ⟨R, oR + 11, none⟩ = some (.int .u16 1)) (c12 : w.cell? ⟨R, oR + 12, none⟩ = some (.int .u16 8232)) (c13 : w.cell? ⟨R, oR + 13, none⟩ = some (.int .u16 8233)) (c14 : w.cell? ⟨R, oR + 14, none⟩ = some (.int .u16 1)) (c15 : w.cell? ⟨R, oR + 15, none⟩ = some (.int .u16 8239)) (c16 : w.cell? ⟨R, oR + 16, none⟩ = some (.int .u16 8287)) (c17 : w.cell? ⟨R, oR + 17, none⟩ = some (.int .u16 48)) (c18 : w.cell? ⟨R, oR + 18, none⟩ = some (.int .u16 12288)) (c19 : w.cell? ⟨R, oR + 19, none⟩ = some (.int .u16 12288)) (c20 : w.cell? ⟨R, oR + 20, none⟩ = some (.int .u16 1)) :
    Calls Tryf.prog 67 #[.slice (some ⟨R, oR + 6, none⟩) 5 5, .int .u16 z] w fun e w' => e = .returned (.bool (Lib.isSpaceR z)) ∧ Below w.heap.size w w' := Any.unicode_is16_white Tryf.lays311 R oR z w hz hz0 c6 c7 c8 c9 c10 c11 c12 c13 c14 c15 c16 c17 c18 c19 c20
def Tryf.lays261_ren : Go.Shelf.Ren := ⟨fun | 261 => 62 | 311 => 67 | 312 => 68 | n => n, fun | 141 => 91 | 21 => 21 | 4 => 4 | 0 => 0 | 196 => 96 | 193 => 93 | 3 => 3 | 51 => 88 | 198 => 99 | 49 => 97 | 194 => 94 | 201 => 102 | 226 => 109 | 46 => 87 | 227 => 110 | n => n, fun | n => n⟩
theorem Tryf.lays261 : Go.Proofs.Lays.n261 Tryf.prog Tryf.lays261_ren := {
  mixed := by kernel_rfl
  f261 := Tryf.func62.trans (congrArg some (by kernel_rfl))
  f311 := Tryf.func67.trans (congrArg some (by kernel_rfl))
  f312 := Tryf.func68.trans (congrArg some (by kernel_rfl))
  t0 := Tryf.underlying0
  a0 := Tryf.isAgg0
  z0 := Tryf.sizeOf0
  v0 := Tryf.zeroValue0
  t3 := Tryf.underlying3
  a3 := Tryf.isAgg3
  z3 := Tryf.sizeOf3
  v3 := Tryf.zeroValue3
  t4 := Tryf.underlying4
  a4 := Tryf.isAgg4
  z4 := Tryf.sizeOf4
  v4 := Tryf.zeroValue4
  t21 := Tryf.underlying21
  a21 := Tryf.isAgg21
  z21 := Tryf.sizeOf21
  v21 := Tryf.zeroValue21
  t46 := Tryf.underlying87
  a46 := Tryf.isAgg87
  z46 := Tryf.sizeOf87
  v46 := Tryf.zeroValue87
  t49 := Tryf.underlying97
  a49 := Tryf.isAgg97
  z49 := Tryf.sizeOf97
  v49 := Tryf.zeroValue97
  t51 := Tryf.underlying88
  a51 := Tryf.isAgg88
  z51 := Tryf.sizeOf88
  v51 := Tryf.zeroValue88
  t141 := Tryf.underlying91
  a141 := Tryf.isAgg91
  z141 := Tryf.sizeOf91
  v141 := Tryf.zeroValue91
  t193 := Tryf.underlying93
  a193 := Tryf.isAgg93
  z193 := Tryf.sizeOf93
  v193 := Tryf.zeroValue93
  t194 := Tryf.underlying94
  a194 := Tryf.isAgg94
  z194 := Tryf.sizeOf94
  v194 := Tryf.zeroValue94
  t196 := Tryf.underlying96
  a196 := Tryf.isAgg96
  z196 := Tryf.sizeOf96
  v196 := Tryf.zeroValue96
  t198 := Tryf.underlying99
  a198 := Tryf.isAgg99
  z198 := Tryf.sizeOf99
  v198 := Tryf.zeroValue99
  t201 := Tryf.underlying102
  a201 := Tryf.isAgg102
  z201 := Tryf.sizeOf102
  v201 := Tryf.zeroValue102
  t226 := Tryf.underlying109
  a226 := Tryf.isAgg109
  z226 := Tryf.sizeOf109
  v226 := Tryf.zeroValue109
  t227 := Tryf.underlying110
  a227 := Tryf.isAgg110
  z227 := Tryf.sizeOf110
  v227 := Tryf.zeroValue110 }
open Go.RowKit Go.Lib in
/-- unicode.isExcludingLatin(White_Space, r), r beyond U+00FF or negative. (LAID: no walk: one application.) -/
theorem Tryf.unicode_isExcludingLatin_white (T oT R oR : Nat) (r : Int) (w : World) (hlo : -2147483648 ≤ r) (hhi : r ≤ 2147483647) (hr : r < 0 ∨ 255 < r) (h2 : w.cell? ⟨T, oT, none⟩ = some (.slice (some ⟨R, oR, none⟩) 7 7)) (h3 : w.cell? ⟨T, oT + 1, none⟩ = some (.slice none 0 0)) (h4 : w.cell? ⟨T, oT + 2, none⟩ = some (.int .i64 2)) (h5 : ∀ i, i < 21 → w.cell? ⟨R, oR + i, none⟩ = some (.int .u16 (whiteT.getD i 0))) :
    Calls Tryf.prog 62 #[.pointer (some ⟨T, oT, none⟩), .int .i32 r] w fun e w' => e = .returned (.bool (Lib.isSpaceZ r)) ∧ Below w.heap.size w w' := Any.unicode_isExcludingLatin_white Tryf.lays261 T oT R oR r w hlo hhi hr h2 h3 h4 h5
open Go.RowKit Go.Lib in
theorem Tryf.unicode_is16_any (T : Array Rg) (R oR cap : Nat) (z : Nat) (w : World) (hz : z < 65536) (hT : RgTab .u16 R oR T w) (hok : RgOk 65536 T) (hn : T.size ≤ 1000000000) :
    Calls Tryf.prog 67 #[.slice (some ⟨R, oR, none⟩) T.size cap, .int .u16 z] w fun e w' => e = .returned (.bool (is16Go T z)) ∧ ∃ q, w' = w.drewN q := Any.unicode_is16_any Tryf.lays311 T R oR cap z w hz hT hok hn
def Tryf.lays312_ren : Go.Shelf.Ren := ⟨fun | 312 => 68 | n => n, fun | 194 => 94 | 51 => 88 | 4 => 4 | 3 => 3 | 0 => 0 | 227 => 110 | 201 => 102 | 46 => 87 | n => n, fun | n => n⟩
theorem Tryf.lays312 : Go.Proofs.Lays.n312 Tryf.prog Tryf.lays312_ren := {
  mixed := by kernel_rfl
  f312 := Tryf.func68.trans (congrArg some (by kernel_rfl))
  t0 := Tryf.underlying0
  a0 := Tryf.isAgg0
  z0 := Tryf.sizeOf0
  v0 := Tryf.zeroValue0
  t3 := Tryf.underlying3
  a3 := Tryf.isAgg3
  z3 := Tryf.sizeOf3
  v3 := Tryf.zeroValue3
  t4 := Tryf.underlying4
  a4 := Tryf.isAgg4
  z4 := Tryf.sizeOf4
  v4 := Tryf.zeroValue4
  t46 := Tryf.underlying87
  a46 := Tryf.isAgg87
  z46 := Tryf.sizeOf87
  v46 := Tryf.zeroValue87
  t51 := Tryf.underlying88
  a51 := Tryf.isAgg88
  z51 := Tryf.sizeOf88
  v51 := Tryf.zeroValue88
  t194 := Tryf.underlying94
  a194 := Tryf.isAgg94
  z194 := Tryf.sizeOf94
  v194 := Tryf.zeroValue94
  t201 := Tryf.underlying102
  a201 := Tryf.isAgg102
  z201 := Tryf.sizeOf102
  v201 := Tryf.zeroValue102
  t227 := Tryf.underlying110
  a227 := Tryf.isAgg110
  z227 := Tryf.sizeOf110
  v227 := Tryf.zeroValue110 }
open Go.RowKit Go.Lib in
theorem Tryf.unicode_is32_any (T : Array Rg) (R oR cap : Nat) (z : Nat) (w : World) (hz : z < 4294967296) (hT : RgTab .u32 R oR T w) (hok : RgOk 4294967296 T) (hn : T.size ≤ 1000000000) :
    Calls Tryf.prog 68 #[.slice (some ⟨R, oR, none⟩) T.size cap, .int .u32 z] w fun e w' => e = .returned (.bool (is32Go T z)) ∧ Below w.heap.size w w' := Any.unicode_is32_any Tryf.lays312 T R oR cap z w hz hT hok hn
open Go.RowKit Go.Lib in
theorem Tryf.unicode_isExcludingLatin_any (Tb oT : Nat) (T : RTab) (r : Int) (w : World) (hlo : -2147483648 ≤ r) (hhi : r ≤ 2147483647) (hA : RTabAt Tb oT T w) (hok : RTabOk T) :
    Calls Tryf.prog 62 #[.pointer (some ⟨Tb, oT, none⟩), .int .i32 r] w fun e w' => e = .returned (.bool (exclGo T r)) ∧ Below w.heap.size w w' := Any.unicode_isExcludingLatin_any Tryf.lays261 Tb oT T r w hlo hhi hA hok
open Go.RowKit Go.Lib in
/-- unicode.IsLetter(r) AT EVERY int32, over whatever table the variable unicode.Letter leads to. (LAID: no walk: one application.) -/
theorem Tryf.unicode_IsLetter_any (T : RTab) (r : Int) (w : World) (hlo : -2147483648 ≤ r) (hhi : r ≤ 2147483647) (htab : Lib.TabIs Tryf.prog w "unicode.properties" .u8 Lib.propertiesTab) (hV : RVar 2 T w) (hok : RTabOk T) :
    Calls Tryf.prog 51 #[.int .i32 r] w fun e w' => e = .returned (.bool (if latin1 r then isLetterL r else exclGo T r)) ∧ Below w.heap.size w w' := Any.unicode_IsLetter_any Tryf.lays200 (by kernel_rfl) T r w hlo hhi htab hV hok
open Go.RowKit Go.Lib in
/-- unicode.IsDigit(r) AT EVERY int32, over whatever table the variable unicode.Digit leads to. (LAID: no walk: one application.) -/
theorem Tryf.unicode_IsDigit_any (T : RTab) (r : Int) (w : World) (hlo : -2147483648 ≤ r) (hhi : r ≤ 2147483647) (hV : RVar 3 T w) (hok : RTabOk T) :
    Calls Tryf.prog 63 #[.int .i32 r] w fun e w' => e = .returned (.bool (if r ≤ 255 then isDigitL r else exclGo T r)) ∧ Below w.heap.size w w' := Any.unicode_IsDigit_any Tryf.lays198 T r w hlo hhi hV hok
open Go.RowKit Go.Lib in
/-- unicode.IsLetter(r) AT EVERY int32, the tables as their initialisers lay them: 'Lib.isLetterU r'. (LAID: no walk: one application.) -/
theorem Tryf.unicode_IsLetter_all (r : Int) (w : World) (hlo : -2147483648 ≤ r) (hhi : r ≤ 2147483647) (htab : Lib.TabIs Tryf.prog w "unicode.properties" .u8 Lib.propertiesTab) (hV : RVar 2 letterT w) :
    Calls Tryf.prog 51 #[.int .i32 r] w fun e w' => e = .returned (.bool (isLetterU r)) ∧ Below w.heap.size w w' := Any.unicode_IsLetter_all Tryf.lays200 (by kernel_rfl) r w hlo hhi htab hV
open Go.RowKit Go.Lib in
/-- unicode.IsDigit(r) AT EVERY int32: 'Lib.isDigitU r'. (LAID: no walk: one application.) -/
theorem Tryf.unicode_IsDigit_all (r : Int) (w : World) (hlo : -2147483648 ≤ r) (hhi : r ≤ 2147483647) (hV : RVar 3 digitT w) :
    Calls Tryf.prog 63 #[.int .i32 r] w fun e w' => e = .returned (.bool (isDigitU r)) ∧ Below w.heap.size w w' := Any.unicode_IsDigit_all Tryf.lays198 r w hlo hhi hV
def Tryf.lays7n32_ren : Go.Shelf.Ren := ⟨fun | 32 => 56 | 49 => 65 | n => n, fun | 30 => 22 | 21 => 21 | 3 => 3 | 0 => 0 | 5 => 5 | 4 => 4 | 33 => 74 | 66 => 89 | 25 => 87 | 69 => 106 | 68 => 105 | n => n, fun | 2 => 4 | 3 => 5 | n => n⟩
theorem Tryf.lays7n32 : Go.Proofs.Lays7.n32 Tryf.prog Tryf.lays7n32_ren := {
  mixed := by kernel_rfl
  f32 := Tryf.func56.trans (congrArg some (by kernel_rfl))
  f49 := Tryf.func65.trans (congrArg some (by kernel_rfl))
  t0 := Tryf.underlying0
  a0 := Tryf.isAgg0
  z0 := Tryf.sizeOf0
  v0 := Tryf.zeroValue0
  i0 := by kernel_rfl
  t3 := Tryf.underlying3
  a3 := Tryf.isAgg3
  z3 := Tryf.sizeOf3
  v3 := Tryf.zeroValue3
  i3 := by kernel_rfl
  t4 := Tryf.underlying4
  a4 := Tryf.isAgg4
  z4 := Tryf.sizeOf4
  v4 := Tryf.zeroValue4
  i4 := by kernel_rfl
  t5 := Tryf.underlying5
  a5 := Tryf.isAgg5
  z5 := Tryf.sizeOf5
  v5 := Tryf.zeroValue5
  i5 := by kernel_rfl
  t21 := Tryf.underlying21
  a21 := Tryf.isAgg21
  z21 := Tryf.sizeOf21
  v21 := Tryf.zeroValue21
  i21 := by kernel_rfl
  t25 := Tryf.underlying87
  a25 := Tryf.isAgg87
  z25 := Tryf.sizeOf87
  v25 := Tryf.zeroValue87
  i25 := by kernel_rfl
  t30 := Tryf.underlying22
  a30 := Tryf.isAgg22
  z30 := Tryf.sizeOf22
  v30 := Tryf.zeroValue22
  i30 := by kernel_rfl
  t33 := Tryf.underlying74
  a33 := Tryf.isAgg74
  z33 := Tryf.sizeOf74
  v33 := Tryf.zeroValue74
  i33 := by kernel_rfl
  t66 := Tryf.underlying89
  a66 := Tryf.isAgg89
  z66 := Tryf.sizeOf89
  t68 := Tryf.underlying105
  a68 := Tryf.isAgg105
  z68 := Tryf.sizeOf105
  v68 := Tryf.zeroValue105
  i68 := by kernel_rfl
  t69 := Tryf.underlying106
  a69 := Tryf.isAgg106
  z69 := Tryf.sizeOf106
  v69 := Tryf.zeroValue106
  i69 := by kernel_rfl
  g2 := by kernel_rfl
  g3 := by kernel_rfl }
open Go.RowKit Go.Lib in
theorem Tryf.utf8_DecodeRune (s : ByteArray) (b off cap : Nat) (w : World) (hT : Lib.Utf8Tabs 4 5 w) (hp : ∀ j, j < s.size → w.cell? ⟨b, off + j, none⟩ = some (.int .u8 (s.get! j).toNat)) :
    Calls Tryf.prog 56 #[.slice (some ⟨b, off, none⟩) s.size cap] w fun e w' => e = .returned (.tuple #[.int .i32 (Lib.decodeGo s).1, .int .i64 (Lib.decodeGo s).2]) ∧ Below w.heap.size w w' := Any7.utf8_DecodeRune Tryf.lays7n32 s b off cap w hT hp
end Go.Proofs
