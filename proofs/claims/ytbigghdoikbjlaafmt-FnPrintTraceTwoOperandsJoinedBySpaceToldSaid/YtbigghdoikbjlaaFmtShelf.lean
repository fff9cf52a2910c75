/-
  DERIVED: THE SHELF's CONTRACTS AT THIS DUMP, IN PLAIN WORDS (tools/lay-plain.mjs out of 'TryfShelf.lean', which tools/lay-shelf.mjs wrote): THE SAME DECLARATIONS UNDER THE SAME NAMES: 'import', 'namespace', 'open', 'def', 'theorem' AND NOTHING ELSE: no command of the shelf's: FOR A HAND-IN. Each laying: the table of numbers ('.._ren') and one theorem, a field a fact of the dump's own or the kernel's comparison; each contract: ONE APPLICATION.
-/
import Derived.Shelf.Strconv.Itoa0
import Derived.Shelf.Strconv.Itoa1
import Derived.Shelf.LaysM
import Derived.Shelf.Strconv.Itoa2
import Derived.Shelf.Strconv.Itoa3
import Derived.Shelf.Bytes.Len
import Derived.Shelf.Bytes.TryGrow
import Derived.Shelf.Bytes.GrowSliceCatch
import Derived.Shelf.Bytes.GrowSlice
import Derived.Shelf.Bytes.String
import Derived.Shelf.Bytes.ResetKept
import Derived.Shelf.Bytes.GrowRow0Own
import Derived.Shelf.Bytes.GrowRowOwn
import Derived.Shelf.Bytes.GrowNilOwn
import Derived.Shelf.Bytes.GrowOwn
import Derived.Shelf.Bytes.WriteAny
import Derived.Shelf.Bytes.StringAt
import Derived.Test.YtbigghdoikbjlaaFmtProg
namespace Go.Proofs
open Go.Shelf
def Tryf.lays129_ren : Go.Shelf.Ren := ⟨fun | 129 => 69 | n => n, fun | 53 => 138 | 3 => 3 | 4 => 4 | 46 => 147 | 5 => 5 | 9 => 9 | n => n, fun | n => n⟩
theorem Tryf.lays129 : Go.Proofs.Lays.n129 Tryf.prog Tryf.lays129_ren := {
  mixed := by kernel_rfl
  f129 := Tryf.func69.trans (congrArg some (by kernel_rfl))
  t3 := Tryf.underlying3
  a3 := Tryf.isAgg3
  z3 := Tryf.sizeOf3
  v3 := Tryf.zeroValue3
  t4 := Tryf.underlying4
  a4 := Tryf.isAgg4
  z4 := Tryf.sizeOf4
  v4 := Tryf.zeroValue4
  t5 := Tryf.underlying5
  a5 := Tryf.isAgg5
  z5 := Tryf.sizeOf5
  v5 := Tryf.zeroValue5
  t9 := Tryf.underlying9
  a9 := Tryf.isAgg9
  z9 := Tryf.sizeOf9
  v9 := Tryf.zeroValue9
  t46 := Tryf.underlying147
  a46 := Tryf.isAgg147
  z46 := Tryf.sizeOf147
  v46 := Tryf.zeroValue147
  t53 := Tryf.underlying138
  a53 := Tryf.isAgg138
  z53 := Tryf.sizeOf138
  v53 := Tryf.zeroValue138 }
/-- bits.Len64: "Len64 returns the minimum number of bits required to represent x; the result is 0 for x == 0.": IT RETURNS 'Lib.bitLen x'; the world is as it was. ('h0', 'h1': x is a uint64.) (LAID: no walk: one application.) -/
theorem Tryf.bits_Len64 (x : Int) (w : World) (h0 : 0 ≤ x) (h1 : x ≤ 18446744073709551615) :
    Calls Tryf.prog 69 #[.int .u64 x] w fun e w' => e = .returned (.int .i64 (Lib.bitLen x.toNat)) ∧ w' = w := Any.bits_Len64 Tryf.lays129 x w h0 h1
def Tryf.lays317_ren : Go.Shelf.Ren := ⟨fun | 317 => 68 | n => n, fun | 3 => 3 | 46 => 147 | n => n, fun | n => n⟩
theorem Tryf.lays317 : Go.Proofs.Lays.n317 Tryf.prog Tryf.lays317_ren := {
  mixed := by kernel_rfl
  f317 := Tryf.func68.trans (congrArg some (by kernel_rfl))
  t3 := Tryf.underlying3
  a3 := Tryf.isAgg3
  z3 := Tryf.sizeOf3
  v3 := Tryf.zeroValue3
  t46 := Tryf.underlying147
  a46 := Tryf.isAgg147
  z46 := Tryf.sizeOf147
  v46 := Tryf.zeroValue147 }
open Go.Lib in
/-- internal/strconv.log10Pow2: "log10Pow2(x) returns ⌊log₁₀ 2**x⌋ = ⌊x * log₁₀ 2⌋.": '(x * 78913) >> 18', at an x up to 64 (a length in bits). The world is as it was. (LAID: no walk: one application.) -/
theorem Tryf.internal_strconv_log10Pow2 (x : Nat) (h : x ≤ 64) (w : World) :
    Calls Tryf.prog 68 #[.int .i64 x] w fun e w' => e = .returned (.int .i64 (Lib.l10 x)) ∧ w' = w := Any.internal_strconv_log10Pow2 Tryf.lays317 x h w
def Tryf.lays318_ren : Go.Shelf.Ren := ⟨fun | 318 => 70 | n => n, fun | 3 => 3 | 4 => 4 | n => n, fun | n => n⟩
theorem Tryf.lays318 : Go.Proofs.Lays.n318 Tryf.prog Tryf.lays318_ren := {
  mixed := by kernel_rfl
  f318 := Tryf.func70.trans (congrArg some (by kernel_rfl))
  t3 := Tryf.underlying3
  a3 := Tryf.isAgg3
  z3 := Tryf.sizeOf3
  v3 := Tryf.zeroValue3
  t4 := Tryf.underlying4
  a4 := Tryf.isAgg4
  z4 := Tryf.sizeOf4
  v4 := Tryf.zeroValue4 }
open Go.Lib in
/-- internal/strconv.bool2: "bool2 converts b to an integer: 1 for true, 0 for false." The world is as it was. (LAID: no walk: one application.) -/
theorem Tryf.internal_strconv_bool2_int (b : Bool) (w : World) :
    Calls Tryf.prog 70 #[.bool b] w fun e w' => e = .returned (.int .i64 (if b then 1 else 0)) ∧ w' = w := Any.internal_strconv_bool2_int Tryf.lays318 b w
def Tryf.lays283_ren : Go.Shelf.Ren := ⟨fun | 283 => 64 | n => n, fun | 3 => 3 | 9 => 9 | 4 => 4 | n => n, fun | n => n⟩
theorem Tryf.lays283 : Go.Proofs.Lays.n283 Tryf.prog Tryf.lays283_ren := {
  mixed := by kernel_rfl
  f283 := Tryf.func64.trans (congrArg some (by kernel_rfl))
  t3 := Tryf.underlying3
  a3 := Tryf.isAgg3
  z3 := Tryf.sizeOf3
  v3 := Tryf.zeroValue3
  t4 := Tryf.underlying4
  a4 := Tryf.isAgg4
  z4 := Tryf.sizeOf4
  v4 := Tryf.zeroValue4
  t9 := Tryf.underlying9
  a9 := Tryf.isAgg9
  z9 := Tryf.sizeOf9
  v9 := Tryf.zeroValue9 }
open Go.Lib in
/-- internal/strconv.small: "small returns the string for an i with 0 <= i < nSmalls.": i's decimal numeral. The world is as it was. (LAID: no walk: one application.) -/
theorem Tryf.internal_strconv_small (i : Nat) (h : i < 100) (w : World) :
    Calls Tryf.prog 64 #[.int .i64 i] w fun e w' => e = .returned (.string ⟨(Lib.decDigits i).toArray⟩) ∧ w' = w := Any.internal_strconv_small Tryf.lays283 i h w
def Tryf.laysM284_ren : Go.Shelf.Ren := ⟨fun | 284 => 65 | 129 => 69 | 317 => 68 | 318 => 70 | n => n, fun | 53 => 138 | 3 => 3 | 212 => 144 | 0 => 0 | 4 => 4 | 46 => 147 | 5 => 5 | 9 => 9 | n => n, fun | 17 => 2 | n => n⟩
theorem Tryf.laysM284 : Go.Proofs.LaysM.n284 Tryf.prog Tryf.laysM284_ren := {
  mixed := by kernel_rfl
  f129 := Tryf.func69.trans (congrArg some (by kernel_rfl))
  f284 := Tryf.func65.trans (congrArg some (by kernel_rfl))
  f317 := Tryf.func68.trans (congrArg some (by kernel_rfl))
  f318 := Tryf.func70.trans (congrArg some (by kernel_rfl))
  t0 := Tryf.underlying0
  a0 := Tryf.isAgg0
  z0 := Tryf.sizeOf0
  v0 := Tryf.zeroValue0
  t3 := Tryf.underlying3
  a3 := Tryf.isAgg3
  z3 := Tryf.sizeOf3
  v3 := Tryf.zeroValue3
  t4 := Tryf.underlying4
  a4 := Tryf.isAgg4
  z4 := Tryf.sizeOf4
  v4 := Tryf.zeroValue4
  t5 := Tryf.underlying5
  a5 := Tryf.isAgg5
  z5 := Tryf.sizeOf5
  v5 := Tryf.zeroValue5
  t9 := Tryf.underlying9
  a9 := Tryf.isAgg9
  z9 := Tryf.sizeOf9
  v9 := Tryf.zeroValue9
  t46 := Tryf.underlying147
  a46 := Tryf.isAgg147
  z46 := Tryf.sizeOf147
  v46 := Tryf.zeroValue147
  t53 := Tryf.underlying138
  a53 := Tryf.isAgg138
  z53 := Tryf.sizeOf138
  v53 := Tryf.zeroValue138
  t212 := Tryf.underlying144
  a212 := Tryf.isAgg144
  z212 := Tryf.sizeOf144
  v212 := Tryf.zeroValue144
  g17 := by kernel_rfl
  i0 := by kernel_rfl
  i3 := by kernel_rfl
  i4 := by kernel_rfl
  i5 := by kernel_rfl
  i9 := by kernel_rfl
  i46 := by kernel_rfl
  i53 := by kernel_rfl
  i212 := by kernel_rfl
  m17 := by kernel_rfl }
open Go.Lib in
/-- internal/strconv.numDigits, at a d that is not 0: THE NUMBER OF d's DECIMAL DIGITS. The world is as it was. (LAID: no walk: one application.) -/
theorem Tryf.internal_strconv_numDigits (u : Nat) (h1 : 1 ≤ u) (h2 : u < 18446744073709551616) (w : World) (htab : Lib.TabIs Tryf.prog w "internal/strconv.uint64pow10" .u64 Lib.pow10Tab) :
    Calls Tryf.prog 65 #[.int .u64 u] w fun e w' => e = .returned (.int .i64 (Lib.nDigits u)) ∧ w' = w := Any.internal_strconv_numDigits Tryf.laysM284 u h1 h2 w htab
def Tryf.lays285_ren : Go.Shelf.Ren := ⟨fun | 285 => 66 | n => n, fun | 37 => 27 | 53 => 138 | 3 => 3 | 4 => 4 | 51 => 62 | 9 => 9 | 5 => 5 | 0 => 0 | n => n, fun | n => n⟩
theorem Tryf.lays285 : Go.Proofs.Lays.n285 Tryf.prog Tryf.lays285_ren := {
  mixed := by kernel_rfl
  f285 := Tryf.func66.trans (congrArg some (by kernel_rfl))
  t0 := Tryf.underlying0
  a0 := Tryf.isAgg0
  z0 := Tryf.sizeOf0
  v0 := Tryf.zeroValue0
  t3 := Tryf.underlying3
  a3 := Tryf.isAgg3
  z3 := Tryf.sizeOf3
  v3 := Tryf.zeroValue3
  t4 := Tryf.underlying4
  a4 := Tryf.isAgg4
  z4 := Tryf.sizeOf4
  v4 := Tryf.zeroValue4
  t5 := Tryf.underlying5
  a5 := Tryf.isAgg5
  z5 := Tryf.sizeOf5
  v5 := Tryf.zeroValue5
  t9 := Tryf.underlying9
  a9 := Tryf.isAgg9
  z9 := Tryf.sizeOf9
  v9 := Tryf.zeroValue9
  t37 := Tryf.underlying27
  a37 := Tryf.isAgg27
  z37 := Tryf.sizeOf27
  v37 := Tryf.zeroValue27
  t51 := Tryf.underlying62
  a51 := Tryf.isAgg62
  z51 := Tryf.sizeOf62
  v51 := Tryf.zeroValue62
  t53 := Tryf.underlying138
  a53 := Tryf.isAgg138
  z53 := Tryf.sizeOf138
  v53 := Tryf.zeroValue138 }
open Go.RowKit Go.Sort Go.Lib in
/-- internal/strconv.formatBase10: "formatBase10 formats the decimal representation of u into a. The caller is responsible for ensuring that a is big enough to hold u. If a is too big, leading zeros will be filled in as needed.": THE ROW HOLDS u's DIGITS ('FmtInv .. 0 ..': every place t holds 'dg u (len - 1 - t)'); all else is as it was but for the count of draws. (LAID: no walk: one application.) -/
theorem Tryf.internal_strconv_formatBase10 (blk off cap : Nat) (u : Nat) (d : Array UInt8) (w : World) (hH : Holds (fun (b : UInt8) => Value.int .u8 (b.toNat : Int)) w blk off d) (hu : u < 10 ^ d.size) (hu64 : u < 18446744073709551616) (hsz : d.size < 4611686018427387904) :
    Calls Tryf.prog 66 #[.slice (some ⟨blk, off, none⟩) d.size cap, .int .u64 u] w fun e w' =>
      e = .returned (.tuple #[]) ∧ ∃ (n v' : Nat) (dk : Array UInt8), w' = (putRow (fun (b : UInt8) => Value.int .u8 (b.toNat : Int)) w blk off dk).drewN n ∧ FmtInv d.size u 0 v' dk := Any.internal_strconv_formatBase10 Tryf.lays285 blk off cap u d w hH hu hu64 hsz
def Tryf.laysM246_ren : Go.Shelf.Ren := ⟨fun | 246 => 63 | 283 => 64 | 284 => 65 | 285 => 66 | 286 => 67 | 129 => 69 | 317 => 68 | 318 => 70 | 319 => 71 | 320 => 72 | 337 => 73 | 338 => 74 | n => n, fun | 2 => 2 | 3 => 3 | 9 => 9 | 4 => 4 | 171 => 137 | 0 => 0 | 53 => 138 | 37 => 27 | 5 => 5 | 173 => 141 | 212 => 144 | 51 => 62 | 20 => 20 | 213 => 145 | 46 => 147 | 232 => 150 | 233 => 151 | n => n, fun | 17 => 2 | 18 => 3 | 19 => 4 | n => n⟩
theorem Tryf.laysM246 : Go.Proofs.LaysM.n246 Tryf.prog Tryf.laysM246_ren := {
  mixed := by kernel_rfl
  f129 := Tryf.func69.trans (congrArg some (by kernel_rfl))
  f246 := Tryf.func63.trans (congrArg some (by kernel_rfl))
  f283 := Tryf.func64.trans (congrArg some (by kernel_rfl))
  f284 := Tryf.func65.trans (congrArg some (by kernel_rfl))
  f285 := Tryf.func66.trans (congrArg some (by kernel_rfl))
  f286 := Tryf.func67.trans (congrArg some (by kernel_rfl))
  f317 := Tryf.func68.trans (congrArg some (by kernel_rfl))
  f318 := Tryf.func70.trans (congrArg some (by kernel_rfl))
  f319 := Tryf.func71.trans (congrArg some (by kernel_rfl))
  f320 := Tryf.func72.trans (congrArg some (by kernel_rfl))
  f337 := Tryf.func73.trans (congrArg some (by kernel_rfl))
  f338 := Tryf.func74.trans (congrArg some (by kernel_rfl))
  t0 := Tryf.underlying0
  a0 := Tryf.isAgg0
  z0 := Tryf.sizeOf0
  v0 := Tryf.zeroValue0
  t2 := Tryf.underlying2
  a2 := Tryf.isAgg2
  z2 := Tryf.sizeOf2
  v2 := Tryf.zeroValue2
  t3 := Tryf.underlying3
  a3 := Tryf.isAgg3
  z3 := Tryf.sizeOf3
  v3 := Tryf.zeroValue3
  t4 := Tryf.underlying4
  a4 := Tryf.isAgg4
  z4 := Tryf.sizeOf4
  v4 := Tryf.zeroValue4
  t5 := Tryf.underlying5
  a5 := Tryf.isAgg5
  z5 := Tryf.sizeOf5
  v5 := Tryf.zeroValue5
  t9 := Tryf.underlying9
  a9 := Tryf.isAgg9
  z9 := Tryf.sizeOf9
  v9 := Tryf.zeroValue9
  t20 := Tryf.underlying20
  a20 := Tryf.isAgg20
  z20 := Tryf.sizeOf20
  v20 := Tryf.zeroValue20
  t37 := Tryf.underlying27
  a37 := Tryf.isAgg27
  z37 := Tryf.sizeOf27
  v37 := Tryf.zeroValue27
  t46 := Tryf.underlying147
  a46 := Tryf.isAgg147
  z46 := Tryf.sizeOf147
  v46 := Tryf.zeroValue147
  t51 := Tryf.underlying62
  a51 := Tryf.isAgg62
  z51 := Tryf.sizeOf62
  v51 := Tryf.zeroValue62
  t53 := Tryf.underlying138
  a53 := Tryf.isAgg138
  z53 := Tryf.sizeOf138
  v53 := Tryf.zeroValue138
  t171 := Tryf.underlying137
  a171 := Tryf.isAgg137
  z171 := Tryf.sizeOf137
  v171 := Tryf.zeroValue137
  t173 := Tryf.underlying141
  a173 := Tryf.isAgg141
  z173 := Tryf.sizeOf141
  v173 := Tryf.zeroValue141
  t212 := Tryf.underlying144
  a212 := Tryf.isAgg144
  z212 := Tryf.sizeOf144
  v212 := Tryf.zeroValue144
  t213 := Tryf.underlying145
  a213 := Tryf.isAgg145
  z213 := Tryf.sizeOf145
  t232 := Tryf.underlying150
  a232 := Tryf.isAgg150
  z232 := Tryf.sizeOf150
  v232 := Tryf.zeroValue150
  t233 := Tryf.underlying151
  a233 := Tryf.isAgg151
  z233 := Tryf.sizeOf151
  v233 := Tryf.zeroValue151
  g17 := by kernel_rfl
  g18 := by kernel_rfl
  g19 := by kernel_rfl
  i0 := by kernel_rfl
  i2 := by kernel_rfl
  i3 := by kernel_rfl
  i4 := by kernel_rfl
  i5 := by kernel_rfl
  i9 := by kernel_rfl
  i20 := by kernel_rfl
  i37 := by kernel_rfl
  i46 := by kernel_rfl
  i51 := by kernel_rfl
  i53 := by kernel_rfl
  i171 := by kernel_rfl
  i173 := by kernel_rfl
  i212 := by kernel_rfl
  i232 := by kernel_rfl
  i233 := by kernel_rfl
  m17 := by kernel_rfl
  m18 := by kernel_rfl
  m19 := by kernel_rfl }
open Go.RowKit Go.Sort Go.Lib in
/-- internal/strconv.FormatInt: "FormatInt returns the string representation of i in the given base": AT BASE 10: i's decimal numeral, for every int64. The world behind the call: the world before it, new blocks behind the heap, draws. (LAID: no walk: one application.) -/
theorem Tryf.internal_strconv_FormatInt_10 (n : Int) (h0 : -9223372036854775808 ≤ n) (h1 : n ≤ 9223372036854775807) (w : World) (htab : Lib.TabIs Tryf.prog w "internal/strconv.uint64pow10" .u64 Lib.pow10Tab) :
    Calls Tryf.prog 63 #[.int .i64 n, .int .i64 10] w fun e w' => e = .returned (.string ⟨(Lib.itoa n).toArray⟩) ∧ ∃ k os, w' = grow (w.drewN k) os := Any.internal_strconv_FormatInt_10 Tryf.laysM246 n h0 h1 w htab
def Tryf.lays246_ren : Go.Shelf.Ren := ⟨fun | 246 => 63 | 283 => 64 | 284 => 65 | 285 => 66 | 286 => 67 | 129 => 69 | 317 => 68 | 318 => 70 | 319 => 71 | 320 => 72 | 337 => 73 | 338 => 74 | n => n, fun | 2 => 2 | 3 => 3 | 9 => 9 | 4 => 4 | 171 => 137 | 0 => 0 | 53 => 138 | 37 => 27 | 5 => 5 | 173 => 141 | 212 => 144 | 51 => 62 | 20 => 20 | 213 => 145 | 46 => 147 | 232 => 150 | 233 => 151 | n => n, fun | 17 => 2 | 18 => 3 | 19 => 4 | n => n⟩
theorem Tryf.lays246 : Go.Proofs.Lays.n246 Tryf.prog Tryf.lays246_ren := {
  mixed := by kernel_rfl
  f129 := Tryf.func69.trans (congrArg some (by kernel_rfl))
  f246 := Tryf.func63.trans (congrArg some (by kernel_rfl))
  f283 := Tryf.func64.trans (congrArg some (by kernel_rfl))
  f284 := Tryf.func65.trans (congrArg some (by kernel_rfl))
  f285 := Tryf.func66.trans (congrArg some (by kernel_rfl))
  f286 := Tryf.func67.trans (congrArg some (by kernel_rfl))
  f317 := Tryf.func68.trans (congrArg some (by kernel_rfl))
  f318 := Tryf.func70.trans (congrArg some (by kernel_rfl))
  f319 := Tryf.func71.trans (congrArg some (by kernel_rfl))
  f320 := Tryf.func72.trans (congrArg some (by kernel_rfl))
  f337 := Tryf.func73.trans (congrArg some (by kernel_rfl))
  f338 := Tryf.func74.trans (congrArg some (by kernel_rfl))
  t0 := Tryf.underlying0
  a0 := Tryf.isAgg0
  z0 := Tryf.sizeOf0
  v0 := Tryf.zeroValue0
  t2 := Tryf.underlying2
  a2 := Tryf.isAgg2
  z2 := Tryf.sizeOf2
  v2 := Tryf.zeroValue2
  t3 := Tryf.underlying3
  a3 := Tryf.isAgg3
  z3 := Tryf.sizeOf3
  v3 := Tryf.zeroValue3
  t4 := Tryf.underlying4
  a4 := Tryf.isAgg4
  z4 := Tryf.sizeOf4
  v4 := Tryf.zeroValue4
  t5 := Tryf.underlying5
  a5 := Tryf.isAgg5
  z5 := Tryf.sizeOf5
  v5 := Tryf.zeroValue5
  t9 := Tryf.underlying9
  a9 := Tryf.isAgg9
  z9 := Tryf.sizeOf9
  v9 := Tryf.zeroValue9
  t20 := Tryf.underlying20
  a20 := Tryf.isAgg20
  z20 := Tryf.sizeOf20
  v20 := Tryf.zeroValue20
  t37 := Tryf.underlying27
  a37 := Tryf.isAgg27
  z37 := Tryf.sizeOf27
  v37 := Tryf.zeroValue27
  t46 := Tryf.underlying147
  a46 := Tryf.isAgg147
  z46 := Tryf.sizeOf147
  v46 := Tryf.zeroValue147
  t51 := Tryf.underlying62
  a51 := Tryf.isAgg62
  z51 := Tryf.sizeOf62
  v51 := Tryf.zeroValue62
  t53 := Tryf.underlying138
  a53 := Tryf.isAgg138
  z53 := Tryf.sizeOf138
  v53 := Tryf.zeroValue138
  t171 := Tryf.underlying137
  a171 := Tryf.isAgg137
  z171 := Tryf.sizeOf137
  v171 := Tryf.zeroValue137
  t173 := Tryf.underlying141
  a173 := Tryf.isAgg141
  z173 := Tryf.sizeOf141
  v173 := Tryf.zeroValue141
  t212 := Tryf.underlying144
  a212 := Tryf.isAgg144
  z212 := Tryf.sizeOf144
  v212 := Tryf.zeroValue144
  t213 := Tryf.underlying145
  a213 := Tryf.isAgg145
  z213 := Tryf.sizeOf145
  t232 := Tryf.underlying150
  a232 := Tryf.isAgg150
  z232 := Tryf.sizeOf150
  v232 := Tryf.zeroValue150
  t233 := Tryf.underlying151
  a233 := Tryf.isAgg151
  z233 := Tryf.sizeOf151
  v233 := Tryf.zeroValue151
  g17 := by kernel_rfl
  g18 := by kernel_rfl
  g19 := by kernel_rfl }
open Go.RowKit Go.Sort Go.Lib in
/-- THE ROAD WITHOUT THE TABLE: 0 <= i < 100: two constants are read, nothing is laid: no premise on the world, and the world is as it was. (LAID: no walk: one application.) -/
theorem Tryf.internal_strconv_FormatInt_10_small (i : Nat) (hi : i < 100) (w : World) :
    Calls Tryf.prog 63 #[.int .i64 i, .int .i64 10] w fun e w' => e = .returned (.string ⟨(Lib.decDigits i).toArray⟩) ∧ w' = w := Any.internal_strconv_FormatInt_10_small Tryf.lays246 i hi w
def Tryf.laysM243_ren : Go.Shelf.Ren := ⟨fun | 243 => 62 | 246 => 63 | 283 => 64 | 284 => 65 | 285 => 66 | 286 => 67 | 129 => 69 | 317 => 68 | 318 => 70 | 319 => 71 | 320 => 72 | 337 => 73 | 338 => 74 | n => n, fun | 3 => 3 | 9 => 9 | 2 => 2 | 4 => 4 | 171 => 137 | 0 => 0 | 53 => 138 | 37 => 27 | 5 => 5 | 173 => 141 | 212 => 144 | 51 => 62 | 20 => 20 | 213 => 145 | 46 => 147 | 232 => 150 | 233 => 151 | n => n, fun | 17 => 2 | 18 => 3 | 19 => 4 | n => n⟩
theorem Tryf.laysM243 : Go.Proofs.LaysM.n243 Tryf.prog Tryf.laysM243_ren := {
  mixed := by kernel_rfl
  f129 := Tryf.func69.trans (congrArg some (by kernel_rfl))
  f243 := Tryf.func62.trans (congrArg some (by kernel_rfl))
  f246 := Tryf.func63.trans (congrArg some (by kernel_rfl))
  f283 := Tryf.func64.trans (congrArg some (by kernel_rfl))
  f284 := Tryf.func65.trans (congrArg some (by kernel_rfl))
  f285 := Tryf.func66.trans (congrArg some (by kernel_rfl))
  f286 := Tryf.func67.trans (congrArg some (by kernel_rfl))
  f317 := Tryf.func68.trans (congrArg some (by kernel_rfl))
  f318 := Tryf.func70.trans (congrArg some (by kernel_rfl))
  f319 := Tryf.func71.trans (congrArg some (by kernel_rfl))
  f320 := Tryf.func72.trans (congrArg some (by kernel_rfl))
  f337 := Tryf.func73.trans (congrArg some (by kernel_rfl))
  f338 := Tryf.func74.trans (congrArg some (by kernel_rfl))
  t0 := Tryf.underlying0
  a0 := Tryf.isAgg0
  z0 := Tryf.sizeOf0
  v0 := Tryf.zeroValue0
  t2 := Tryf.underlying2
  a2 := Tryf.isAgg2
  z2 := Tryf.sizeOf2
  v2 := Tryf.zeroValue2
  t3 := Tryf.underlying3
  a3 := Tryf.isAgg3
  z3 := Tryf.sizeOf3
  v3 := Tryf.zeroValue3
  t4 := Tryf.underlying4
  a4 := Tryf.isAgg4
  z4 := Tryf.sizeOf4
  v4 := Tryf.zeroValue4
  t5 := Tryf.underlying5
  a5 := Tryf.isAgg5
  z5 := Tryf.sizeOf5
  v5 := Tryf.zeroValue5
  t9 := Tryf.underlying9
  a9 := Tryf.isAgg9
  z9 := Tryf.sizeOf9
  v9 := Tryf.zeroValue9
  t20 := Tryf.underlying20
  a20 := Tryf.isAgg20
  z20 := Tryf.sizeOf20
  v20 := Tryf.zeroValue20
  t37 := Tryf.underlying27
  a37 := Tryf.isAgg27
  z37 := Tryf.sizeOf27
  v37 := Tryf.zeroValue27
  t46 := Tryf.underlying147
  a46 := Tryf.isAgg147
  z46 := Tryf.sizeOf147
  v46 := Tryf.zeroValue147
  t51 := Tryf.underlying62
  a51 := Tryf.isAgg62
  z51 := Tryf.sizeOf62
  v51 := Tryf.zeroValue62
  t53 := Tryf.underlying138
  a53 := Tryf.isAgg138
  z53 := Tryf.sizeOf138
  v53 := Tryf.zeroValue138
  t171 := Tryf.underlying137
  a171 := Tryf.isAgg137
  z171 := Tryf.sizeOf137
  v171 := Tryf.zeroValue137
  t173 := Tryf.underlying141
  a173 := Tryf.isAgg141
  z173 := Tryf.sizeOf141
  v173 := Tryf.zeroValue141
  t212 := Tryf.underlying144
  a212 := Tryf.isAgg144
  z212 := Tryf.sizeOf144
  v212 := Tryf.zeroValue144
  t213 := Tryf.underlying145
  a213 := Tryf.isAgg145
  z213 := Tryf.sizeOf145
  t232 := Tryf.underlying150
  a232 := Tryf.isAgg150
  z232 := Tryf.sizeOf150
  v232 := Tryf.zeroValue150
  t233 := Tryf.underlying151
  a233 := Tryf.isAgg151
  z233 := Tryf.sizeOf151
  v233 := Tryf.zeroValue151
  g17 := by kernel_rfl
  g18 := by kernel_rfl
  g19 := by kernel_rfl
  i0 := by kernel_rfl
  i2 := by kernel_rfl
  i3 := by kernel_rfl
  i4 := by kernel_rfl
  i5 := by kernel_rfl
  i9 := by kernel_rfl
  i20 := by kernel_rfl
  i37 := by kernel_rfl
  i46 := by kernel_rfl
  i51 := by kernel_rfl
  i53 := by kernel_rfl
  i171 := by kernel_rfl
  i173 := by kernel_rfl
  i212 := by kernel_rfl
  i232 := by kernel_rfl
  i233 := by kernel_rfl
  m17 := by kernel_rfl
  m18 := by kernel_rfl
  m19 := by kernel_rfl }
open Go.RowKit Go.Sort Go.Lib in
/-- internal/strconv.Itoa: "Itoa is equivalent to FormatInt(int64(i), 10).": i's decimal numeral, for every int. (LAID: no walk: one application.) -/
theorem Tryf.internal_strconv_Itoa (n : Int) (h0 : -9223372036854775808 ≤ n) (h1 : n ≤ 9223372036854775807) (w : World) (htab : Lib.TabIs Tryf.prog w "internal/strconv.uint64pow10" .u64 Lib.pow10Tab) :
    Calls Tryf.prog 62 #[.int .i64 n] w fun e w' => e = .returned (.string ⟨(Lib.itoa n).toArray⟩) ∧ ∃ k os, w' = grow (w.drewN k) os := Any.internal_strconv_Itoa Tryf.laysM243 n h0 h1 w htab
def Tryf.lays243_ren : Go.Shelf.Ren := ⟨fun | 243 => 62 | 246 => 63 | 283 => 64 | 284 => 65 | 285 => 66 | 286 => 67 | 129 => 69 | 317 => 68 | 318 => 70 | 319 => 71 | 320 => 72 | 337 => 73 | 338 => 74 | n => n, fun | 3 => 3 | 9 => 9 | 2 => 2 | 4 => 4 | 171 => 137 | 0 => 0 | 53 => 138 | 37 => 27 | 5 => 5 | 173 => 141 | 212 => 144 | 51 => 62 | 20 => 20 | 213 => 145 | 46 => 147 | 232 => 150 | 233 => 151 | n => n, fun | 17 => 2 | 18 => 3 | 19 => 4 | n => n⟩
theorem Tryf.lays243 : Go.Proofs.Lays.n243 Tryf.prog Tryf.lays243_ren := {
  mixed := by kernel_rfl
  f129 := Tryf.func69.trans (congrArg some (by kernel_rfl))
  f243 := Tryf.func62.trans (congrArg some (by kernel_rfl))
  f246 := Tryf.func63.trans (congrArg some (by kernel_rfl))
  f283 := Tryf.func64.trans (congrArg some (by kernel_rfl))
  f284 := Tryf.func65.trans (congrArg some (by kernel_rfl))
  f285 := Tryf.func66.trans (congrArg some (by kernel_rfl))
  f286 := Tryf.func67.trans (congrArg some (by kernel_rfl))
  f317 := Tryf.func68.trans (congrArg some (by kernel_rfl))
  f318 := Tryf.func70.trans (congrArg some (by kernel_rfl))
  f319 := Tryf.func71.trans (congrArg some (by kernel_rfl))
  f320 := Tryf.func72.trans (congrArg some (by kernel_rfl))
  f337 := Tryf.func73.trans (congrArg some (by kernel_rfl))
  f338 := Tryf.func74.trans (congrArg some (by kernel_rfl))
  t0 := Tryf.underlying0
  a0 := Tryf.isAgg0
  z0 := Tryf.sizeOf0
  v0 := Tryf.zeroValue0
  t2 := Tryf.underlying2
  a2 := Tryf.isAgg2
  z2 := Tryf.sizeOf2
  v2 := Tryf.zeroValue2
  t3 := Tryf.underlying3
  a3 := Tryf.isAgg3
  z3 := Tryf.sizeOf3
  v3 := Tryf.zeroValue3
  t4 := Tryf.underlying4
  a4 := Tryf.isAgg4
  z4 := Tryf.sizeOf4
  v4 := Tryf.zeroValue4
  t5 := Tryf.underlying5
  a5 := Tryf.isAgg5
  z5 := Tryf.sizeOf5
  v5 := Tryf.zeroValue5
  t9 := Tryf.underlying9
  a9 := Tryf.isAgg9
  z9 := Tryf.sizeOf9
  v9 := Tryf.zeroValue9
  t20 := Tryf.underlying20
  a20 := Tryf.isAgg20
  z20 := Tryf.sizeOf20
  v20 := Tryf.zeroValue20
  t37 := Tryf.underlying27
  a37 := Tryf.isAgg27
  z37 := Tryf.sizeOf27
  v37 := Tryf.zeroValue27
  t46 := Tryf.underlying147
  a46 := Tryf.isAgg147
  z46 := Tryf.sizeOf147
  v46 := Tryf.zeroValue147
  t51 := Tryf.underlying62
  a51 := Tryf.isAgg62
  z51 := Tryf.sizeOf62
  v51 := Tryf.zeroValue62
  t53 := Tryf.underlying138
  a53 := Tryf.isAgg138
  z53 := Tryf.sizeOf138
  v53 := Tryf.zeroValue138
  t171 := Tryf.underlying137
  a171 := Tryf.isAgg137
  z171 := Tryf.sizeOf137
  v171 := Tryf.zeroValue137
  t173 := Tryf.underlying141
  a173 := Tryf.isAgg141
  z173 := Tryf.sizeOf141
  v173 := Tryf.zeroValue141
  t212 := Tryf.underlying144
  a212 := Tryf.isAgg144
  z212 := Tryf.sizeOf144
  v212 := Tryf.zeroValue144
  t213 := Tryf.underlying145
  a213 := Tryf.isAgg145
  z213 := Tryf.sizeOf145
  t232 := Tryf.underlying150
  a232 := Tryf.isAgg150
  z232 := Tryf.sizeOf150
  v232 := Tryf.zeroValue150
  t233 := Tryf.underlying151
  a233 := Tryf.isAgg151
  z233 := Tryf.sizeOf151
  v233 := Tryf.zeroValue151
  g17 := by kernel_rfl
  g18 := by kernel_rfl
  g19 := by kernel_rfl }
open Go.RowKit Go.Sort Go.Lib in
/-- THE ROAD WITHOUT THE TABLE: 0 <= i < 100. (LAID: no walk: one application.) -/
theorem Tryf.internal_strconv_Itoa_small (i : Nat) (hi : i < 100) (w : World) :
    Calls Tryf.prog 62 #[.int .i64 i] w fun e w' => e = .returned (.string ⟨(Lib.decDigits i).toArray⟩) ∧ w' = w := Any.internal_strconv_Itoa_small Tryf.lays243 i hi w
def Tryf.laysM171_ren : Go.Shelf.Ren := ⟨fun | 171 => 61 | 243 => 62 | 246 => 63 | 283 => 64 | 284 => 65 | 285 => 66 | 286 => 67 | 129 => 69 | 317 => 68 | 318 => 70 | 319 => 71 | 320 => 72 | 337 => 73 | 338 => 74 | n => n, fun | 3 => 3 | 9 => 9 | 2 => 2 | 4 => 4 | 171 => 137 | 0 => 0 | 53 => 138 | 37 => 27 | 5 => 5 | 173 => 141 | 212 => 144 | 51 => 62 | 20 => 20 | 213 => 145 | 46 => 147 | 232 => 150 | 233 => 151 | n => n, fun | 17 => 2 | 18 => 3 | 19 => 4 | n => n⟩
theorem Tryf.laysM171 : Go.Proofs.LaysM.n171 Tryf.prog Tryf.laysM171_ren := {
  mixed := by kernel_rfl
  f129 := Tryf.func69.trans (congrArg some (by kernel_rfl))
  f171 := Tryf.func61.trans (congrArg some (by kernel_rfl))
  f243 := Tryf.func62.trans (congrArg some (by kernel_rfl))
  f246 := Tryf.func63.trans (congrArg some (by kernel_rfl))
  f283 := Tryf.func64.trans (congrArg some (by kernel_rfl))
  f284 := Tryf.func65.trans (congrArg some (by kernel_rfl))
  f285 := Tryf.func66.trans (congrArg some (by kernel_rfl))
  f286 := Tryf.func67.trans (congrArg some (by kernel_rfl))
  f317 := Tryf.func68.trans (congrArg some (by kernel_rfl))
  f318 := Tryf.func70.trans (congrArg some (by kernel_rfl))
  f319 := Tryf.func71.trans (congrArg some (by kernel_rfl))
  f320 := Tryf.func72.trans (congrArg some (by kernel_rfl))
  f337 := Tryf.func73.trans (congrArg some (by kernel_rfl))
  f338 := Tryf.func74.trans (congrArg some (by kernel_rfl))
  t0 := Tryf.underlying0
  a0 := Tryf.isAgg0
  z0 := Tryf.sizeOf0
  v0 := Tryf.zeroValue0
  t2 := Tryf.underlying2
  a2 := Tryf.isAgg2
  z2 := Tryf.sizeOf2
  v2 := Tryf.zeroValue2
  t3 := Tryf.underlying3
  a3 := Tryf.isAgg3
  z3 := Tryf.sizeOf3
  v3 := Tryf.zeroValue3
  t4 := Tryf.underlying4
  a4 := Tryf.isAgg4
  z4 := Tryf.sizeOf4
  v4 := Tryf.zeroValue4
  t5 := Tryf.underlying5
  a5 := Tryf.isAgg5
  z5 := Tryf.sizeOf5
  v5 := Tryf.zeroValue5
  t9 := Tryf.underlying9
  a9 := Tryf.isAgg9
  z9 := Tryf.sizeOf9
  v9 := Tryf.zeroValue9
  t20 := Tryf.underlying20
  a20 := Tryf.isAgg20
  z20 := Tryf.sizeOf20
  v20 := Tryf.zeroValue20
  t37 := Tryf.underlying27
  a37 := Tryf.isAgg27
  z37 := Tryf.sizeOf27
  v37 := Tryf.zeroValue27
  t46 := Tryf.underlying147
  a46 := Tryf.isAgg147
  z46 := Tryf.sizeOf147
  v46 := Tryf.zeroValue147
  t51 := Tryf.underlying62
  a51 := Tryf.isAgg62
  z51 := Tryf.sizeOf62
  v51 := Tryf.zeroValue62
  t53 := Tryf.underlying138
  a53 := Tryf.isAgg138
  z53 := Tryf.sizeOf138
  v53 := Tryf.zeroValue138
  t171 := Tryf.underlying137
  a171 := Tryf.isAgg137
  z171 := Tryf.sizeOf137
  v171 := Tryf.zeroValue137
  t173 := Tryf.underlying141
  a173 := Tryf.isAgg141
  z173 := Tryf.sizeOf141
  v173 := Tryf.zeroValue141
  t212 := Tryf.underlying144
  a212 := Tryf.isAgg144
  z212 := Tryf.sizeOf144
  v212 := Tryf.zeroValue144
  t213 := Tryf.underlying145
  a213 := Tryf.isAgg145
  z213 := Tryf.sizeOf145
  t232 := Tryf.underlying150
  a232 := Tryf.isAgg150
  z232 := Tryf.sizeOf150
  v232 := Tryf.zeroValue150
  t233 := Tryf.underlying151
  a233 := Tryf.isAgg151
  z233 := Tryf.sizeOf151
  v233 := Tryf.zeroValue151
  g17 := by kernel_rfl
  g18 := by kernel_rfl
  g19 := by kernel_rfl
  i0 := by kernel_rfl
  i2 := by kernel_rfl
  i3 := by kernel_rfl
  i4 := by kernel_rfl
  i5 := by kernel_rfl
  i9 := by kernel_rfl
  i20 := by kernel_rfl
  i37 := by kernel_rfl
  i46 := by kernel_rfl
  i51 := by kernel_rfl
  i53 := by kernel_rfl
  i171 := by kernel_rfl
  i173 := by kernel_rfl
  i212 := by kernel_rfl
  i232 := by kernel_rfl
  i233 := by kernel_rfl
  m17 := by kernel_rfl
  m18 := by kernel_rfl
  m19 := by kernel_rfl }
open Go.RowKit Go.Sort Go.Lib in
/-- strconv.Itoa: "Itoa is equivalent to FormatInt(int64(i), 10).": i's DECIMAL NUMERAL ('Lib.itoa': a '-' where i is negative, then the digits), FOR EVERY int. The world behind the call: the world before it, new blocks behind the heap (the library's 'var a [24]byte'), draws. (LAID: no walk: one application.) -/
theorem Tryf.strconv_Itoa (n : Int) (h0 : -9223372036854775808 ≤ n) (h1 : n ≤ 9223372036854775807) (w : World) (htab : Lib.TabIs Tryf.prog w "internal/strconv.uint64pow10" .u64 Lib.pow10Tab) :
    Calls Tryf.prog 61 #[.int .i64 n] w fun e w' => e = .returned (.string ⟨(Lib.itoa n).toArray⟩) ∧ ∃ k os, w' = grow (w.drewN k) os := Any.strconv_Itoa Tryf.laysM171 n h0 h1 w htab
def Tryf.lays171_ren : Go.Shelf.Ren := ⟨fun | 171 => 61 | 243 => 62 | 246 => 63 | 283 => 64 | 284 => 65 | 285 => 66 | 286 => 67 | 129 => 69 | 317 => 68 | 318 => 70 | 319 => 71 | 320 => 72 | 337 => 73 | 338 => 74 | n => n, fun | 3 => 3 | 9 => 9 | 2 => 2 | 4 => 4 | 171 => 137 | 0 => 0 | 53 => 138 | 37 => 27 | 5 => 5 | 173 => 141 | 212 => 144 | 51 => 62 | 20 => 20 | 213 => 145 | 46 => 147 | 232 => 150 | 233 => 151 | n => n, fun | 17 => 2 | 18 => 3 | 19 => 4 | n => n⟩
theorem Tryf.lays171 : Go.Proofs.Lays.n171 Tryf.prog Tryf.lays171_ren := {
  mixed := by kernel_rfl
  f129 := Tryf.func69.trans (congrArg some (by kernel_rfl))
  f171 := Tryf.func61.trans (congrArg some (by kernel_rfl))
  f243 := Tryf.func62.trans (congrArg some (by kernel_rfl))
  f246 := Tryf.func63.trans (congrArg some (by kernel_rfl))
  f283 := Tryf.func64.trans (congrArg some (by kernel_rfl))
  f284 := Tryf.func65.trans (congrArg some (by kernel_rfl))
  f285 := Tryf.func66.trans (congrArg some (by kernel_rfl))
  f286 := Tryf.func67.trans (congrArg some (by kernel_rfl))
  f317 := Tryf.func68.trans (congrArg some (by kernel_rfl))
  f318 := Tryf.func70.trans (congrArg some (by kernel_rfl))
  f319 := Tryf.func71.trans (congrArg some (by kernel_rfl))
  f320 := Tryf.func72.trans (congrArg some (by kernel_rfl))
  f337 := Tryf.func73.trans (congrArg some (by kernel_rfl))
  f338 := Tryf.func74.trans (congrArg some (by kernel_rfl))
  t0 := Tryf.underlying0
  a0 := Tryf.isAgg0
  z0 := Tryf.sizeOf0
  v0 := Tryf.zeroValue0
  t2 := Tryf.underlying2
  a2 := Tryf.isAgg2
  z2 := Tryf.sizeOf2
  v2 := Tryf.zeroValue2
  t3 := Tryf.underlying3
  a3 := Tryf.isAgg3
  z3 := Tryf.sizeOf3
  v3 := Tryf.zeroValue3
  t4 := Tryf.underlying4
  a4 := Tryf.isAgg4
  z4 := Tryf.sizeOf4
  v4 := Tryf.zeroValue4
  t5 := Tryf.underlying5
  a5 := Tryf.isAgg5
  z5 := Tryf.sizeOf5
  v5 := Tryf.zeroValue5
  t9 := Tryf.underlying9
  a9 := Tryf.isAgg9
  z9 := Tryf.sizeOf9
  v9 := Tryf.zeroValue9
  t20 := Tryf.underlying20
  a20 := Tryf.isAgg20
  z20 := Tryf.sizeOf20
  v20 := Tryf.zeroValue20
  t37 := Tryf.underlying27
  a37 := Tryf.isAgg27
  z37 := Tryf.sizeOf27
  v37 := Tryf.zeroValue27
  t46 := Tryf.underlying147
  a46 := Tryf.isAgg147
  z46 := Tryf.sizeOf147
  v46 := Tryf.zeroValue147
  t51 := Tryf.underlying62
  a51 := Tryf.isAgg62
  z51 := Tryf.sizeOf62
  v51 := Tryf.zeroValue62
  t53 := Tryf.underlying138
  a53 := Tryf.isAgg138
  z53 := Tryf.sizeOf138
  v53 := Tryf.zeroValue138
  t171 := Tryf.underlying137
  a171 := Tryf.isAgg137
  z171 := Tryf.sizeOf137
  v171 := Tryf.zeroValue137
  t173 := Tryf.underlying141
  a173 := Tryf.isAgg141
  z173 := Tryf.sizeOf141
  v173 := Tryf.zeroValue141
  t212 := Tryf.underlying144
  a212 := Tryf.isAgg144
  z212 := Tryf.sizeOf144
  v212 := Tryf.zeroValue144
  t213 := Tryf.underlying145
  a213 := Tryf.isAgg145
  z213 := Tryf.sizeOf145
  t232 := Tryf.underlying150
  a232 := Tryf.isAgg150
  z232 := Tryf.sizeOf150
  v232 := Tryf.zeroValue150
  t233 := Tryf.underlying151
  a233 := Tryf.isAgg151
  z233 := Tryf.sizeOf151
  v233 := Tryf.zeroValue151
  g17 := by kernel_rfl
  g18 := by kernel_rfl
  g19 := by kernel_rfl }
open Go.RowKit Go.Sort Go.Lib in
/-- THE ROAD WITHOUT THE TABLE: 0 <= i < 100: NO PREMISE ON THE WORLD, AND THE WORLD IS AS IT WAS: a row that keeps its argument in that range need list no table ('laid = []'). (LAID: no walk: one application.) -/
theorem Tryf.strconv_Itoa_small (i : Nat) (hi : i < 100) (w : World) :
    Calls Tryf.prog 61 #[.int .i64 i] w fun e w' => e = .returned (.string ⟨(Lib.decDigits i).toArray⟩) ∧ w' = w := Any.strconv_Itoa_small Tryf.lays171 i hi w
def Tryf.laysM181_ren : Go.Shelf.Ren := ⟨fun | 181 => 36 | n => n, fun | 130 => 33 | 3 => 3 | 0 => 0 | 93 => 31 | 37 => 27 | 91 => 29 | 5 => 5 | n => n, fun | n => n⟩
theorem Tryf.laysM181 : Go.Proofs.LaysM.n181 Tryf.prog Tryf.laysM181_ren := {
  mixed := by kernel_rfl
  f181 := Tryf.func36.trans (congrArg some (by kernel_rfl))
  t0 := Tryf.underlying0
  a0 := Tryf.isAgg0
  z0 := Tryf.sizeOf0
  v0 := Tryf.zeroValue0
  t3 := Tryf.underlying3
  a3 := Tryf.isAgg3
  z3 := Tryf.sizeOf3
  v3 := Tryf.zeroValue3
  t37 := Tryf.underlying27
  a37 := Tryf.isAgg27
  z37 := Tryf.sizeOf27
  v37 := Tryf.zeroValue27
  t93 := Tryf.underlying31
  a93 := Tryf.isAgg31
  z93 := Tryf.sizeOf31
  v93 := Tryf.zeroValue31
  t130 := Tryf.underlying33
  a130 := Tryf.isAgg33
  z130 := Tryf.sizeOf33
  v130 := Tryf.zeroValue33
  t5 := Tryf.underlying5
  a5 := Tryf.isAgg5
  z5 := Tryf.sizeOf5
  v5 := Tryf.zeroValue5
  t91 := Tryf.underlying29
  a91 := Tryf.isAgg29
  z91 := Tryf.sizeOf29
  v91 := Tryf.zeroValue29
  i0 := by kernel_rfl
  i3 := by kernel_rfl
  i5 := by kernel_rfl
  i37 := by kernel_rfl
  i91 := by kernel_rfl
  i93 := by kernel_rfl
  i130 := by kernel_rfl }
open Go.RowKit in
/-- (*bytes.Buffer).Len: "Len returns the number of bytes of the unread portion of the buffer; b.Len() == len(b.Bytes()).": the world is as it was but for the count of draws (the statement has two reads: its order is drawn). (LAID: no walk: one application.) -/
theorem Tryf.Buffer_Len (B b : Nat) (bs : List Value) (w : World) (h : Lib.IsBuffer 31 5 B b bs w) :
    Calls Tryf.prog 36 #[.pointer (some ⟨b, 0, none⟩)] w fun e w' => e = .returned (.int .i64 bs.length) ∧ ∃ n, w' = w.drewN n := Any.Buffer_Len Tryf.laysM181 B b bs w h
def Tryf.laysM251_ren : Go.Shelf.Ren := ⟨fun | 251 => 34 | n => n, fun | 130 => 33 | 3 => 3 | 4 => 4 | 0 => 0 | 93 => 31 | 37 => 27 | 91 => 29 | 5 => 5 | n => n, fun | n => n⟩
theorem Tryf.laysM251 : Go.Proofs.LaysM.n251 Tryf.prog Tryf.laysM251_ren := {
  mixed := by kernel_rfl
  f251 := Tryf.func34.trans (congrArg some (by kernel_rfl))
  t0 := Tryf.underlying0
  a0 := Tryf.isAgg0
  z0 := Tryf.sizeOf0
  v0 := Tryf.zeroValue0
  t3 := Tryf.underlying3
  a3 := Tryf.isAgg3
  z3 := Tryf.sizeOf3
  v3 := Tryf.zeroValue3
  t4 := Tryf.underlying4
  a4 := Tryf.isAgg4
  z4 := Tryf.sizeOf4
  v4 := Tryf.zeroValue4
  t37 := Tryf.underlying27
  a37 := Tryf.isAgg27
  z37 := Tryf.sizeOf27
  v37 := Tryf.zeroValue27
  t93 := Tryf.underlying31
  a93 := Tryf.isAgg31
  z93 := Tryf.sizeOf31
  v93 := Tryf.zeroValue31
  t130 := Tryf.underlying33
  a130 := Tryf.isAgg33
  z130 := Tryf.sizeOf33
  v130 := Tryf.zeroValue33
  t5 := Tryf.underlying5
  a5 := Tryf.isAgg5
  z5 := Tryf.sizeOf5
  v5 := Tryf.zeroValue5
  t91 := Tryf.underlying29
  a91 := Tryf.isAgg29
  z91 := Tryf.sizeOf29
  v91 := Tryf.zeroValue29
  i0 := by kernel_rfl
  i3 := by kernel_rfl
  i4 := by kernel_rfl
  i5 := by kernel_rfl
  i37 := by kernel_rfl
  i91 := by kernel_rfl
  i93 := by kernel_rfl
  i130 := by kernel_rfl }
open Go.RowKit in
/-- (*bytes.Buffer).tryGrowByReslice: "tryGrowByReslice is an inlineable version of grow for the fast-case where the internal buffer only needs to be resliced. It returns the index where bytes should be written and whether it succeeded.": THERE IS ROOM: 'buf' is resliced to l + n. (LAID: no walk: one application.) -/
theorem Tryf.Buffer_tryGrow_room (b : Nat) (ao : Option Addr) (l cap n : Nat) (w : World) (c0 : w.cell? ⟨b, 0, none⟩ = some (.slice ao l cap)) (f0 : w.frozen? ⟨b, 0, none⟩ = false) (hlc : l ≤ cap) (hcap : cap ≤ maxLen) (hn : n ≤ cap - l) :
    Calls Tryf.prog 34 #[.pointer (some ⟨b, 0, none⟩), .int .i64 n] w fun e w' => e = .returned (.tuple #[.int .i64 l, .bool true]) ∧ w' = w.setCell ⟨b, 0, none⟩ (.slice ao (l + n) cap) := Any.Buffer_tryGrow_room Tryf.laysM251 b ao l cap n w c0 f0 hlc hcap hn
open Go.RowKit in
/-- .. THERE IS NONE: nothing turns. (LAID: no walk: one application.) -/
theorem Tryf.Buffer_tryGrow_none (b : Nat) (ao : Option Addr) (l cap n : Nat) (w : World) (c0 : w.cell? ⟨b, 0, none⟩ = some (.slice ao l cap)) (hlc : l ≤ cap) (hcap : cap ≤ maxLen) (hn : cap - l < n) :
    Calls Tryf.prog 34 #[.pointer (some ⟨b, 0, none⟩), .int .i64 n] w fun e w' => e = .returned (.tuple #[.int .i64 0, .bool false]) ∧ w' = w := Any.Buffer_tryGrow_none Tryf.laysM251 b ao l cap n w c0 hlc hcap hn
def Tryf.laysM324_ren : Go.Shelf.Ren := ⟨fun | 324 => 38 | n => n, fun | 20 => 20 | 4 => 4 | 75 => 51 | 0 => 0 | 80 => 48 | 9 => 9 | n => n, fun | 14 => 0 | n => n⟩
theorem Tryf.laysM324 : Go.Proofs.LaysM.n324 Tryf.prog Tryf.laysM324_ren := {
  mixed := by kernel_rfl
  f324 := Tryf.func38.trans (congrArg some (by kernel_rfl))
  t0 := Tryf.underlying0
  a0 := Tryf.isAgg0
  z0 := Tryf.sizeOf0
  v0 := Tryf.zeroValue0
  t4 := Tryf.underlying4
  a4 := Tryf.isAgg4
  z4 := Tryf.sizeOf4
  v4 := Tryf.zeroValue4
  t20 := Tryf.underlying20
  a20 := Tryf.isAgg20
  z20 := Tryf.sizeOf20
  v20 := Tryf.zeroValue20
  t75 := Tryf.underlying51
  a75 := Tryf.isAgg51
  z75 := Tryf.sizeOf51
  v75 := Tryf.zeroValue51
  g14 := by kernel_rfl
  t9 := Tryf.underlying9
  a9 := Tryf.isAgg9
  z9 := Tryf.sizeOf9
  v9 := Tryf.zeroValue9
  t80 := Tryf.underlying48
  a80 := Tryf.isAgg48
  z80 := Tryf.sizeOf48
  v80 := Tryf.zeroValue48
  i0 := by kernel_rfl
  i4 := by kernel_rfl
  i9 := by kernel_rfl
  i20 := by kernel_rfl
  i75 := by kernel_rfl
  i80 := by kernel_rfl
  m14 := by kernel_rfl }
theorem Tryf.growSlice_catch_idle (w : World) :
    CallsD Tryf.prog 38 #[] .returning w fun e u' w' => e = .returned (.tuple #[]) ∧ u' = .returning ∧ w' = w := Any.growSlice_catch_idle Tryf.laysM324 w
def Tryf.laysM290_ren : Go.Shelf.Ren := ⟨fun | 290 => 37 | 324 => 38 | n => n, fun | 37 => 27 | 3 => 3 | 0 => 0 | 4 => 4 | 20 => 20 | 75 => 51 | 5 => 5 | 80 => 48 | 9 => 9 | n => n, fun | 14 => 0 | n => n⟩
theorem Tryf.laysM290 : Go.Proofs.LaysM.n290 Tryf.prog Tryf.laysM290_ren := {
  mixed := by kernel_rfl
  f290 := Tryf.func37.trans (congrArg some (by kernel_rfl))
  f324 := Tryf.func38.trans (congrArg some (by kernel_rfl))
  t0 := Tryf.underlying0
  a0 := Tryf.isAgg0
  z0 := Tryf.sizeOf0
  v0 := Tryf.zeroValue0
  t3 := Tryf.underlying3
  a3 := Tryf.isAgg3
  z3 := Tryf.sizeOf3
  v3 := Tryf.zeroValue3
  t4 := Tryf.underlying4
  a4 := Tryf.isAgg4
  z4 := Tryf.sizeOf4
  v4 := Tryf.zeroValue4
  t20 := Tryf.underlying20
  a20 := Tryf.isAgg20
  z20 := Tryf.sizeOf20
  v20 := Tryf.zeroValue20
  t37 := Tryf.underlying27
  a37 := Tryf.isAgg27
  z37 := Tryf.sizeOf27
  v37 := Tryf.zeroValue27
  t75 := Tryf.underlying51
  a75 := Tryf.isAgg51
  z75 := Tryf.sizeOf51
  v75 := Tryf.zeroValue51
  g14 := by kernel_rfl
  t5 := Tryf.underlying5
  a5 := Tryf.isAgg5
  z5 := Tryf.sizeOf5
  v5 := Tryf.zeroValue5
  t9 := Tryf.underlying9
  a9 := Tryf.isAgg9
  z9 := Tryf.sizeOf9
  v9 := Tryf.zeroValue9
  t80 := Tryf.underlying48
  a80 := Tryf.isAgg48
  z80 := Tryf.sizeOf48
  v80 := Tryf.zeroValue48
  i0 := by kernel_rfl
  i3 := by kernel_rfl
  i4 := by kernel_rfl
  i5 := by kernel_rfl
  i9 := by kernel_rfl
  i20 := by kernel_rfl
  i37 := by kernel_rfl
  i75 := by kernel_rfl
  i80 := by kernel_rfl
  m14 := by kernel_rfl }
open Go.RowKit in
/-- bytes.growSlice: "growSlice grows b by n, preserving the original content of b.": OF A SLICE THAT LIES AT THE HEAD OF A ROW: a new row, number 'w.heap.size': it begins with b's l cells; its capacity has room for n more; whatever lay below is as it was. (LAID: no walk: one application.) -/
theorem Tryf.bytes_growSlice_row (g l c n : Nat) (cur : Array Value) (w : World) (hg : w.heap[g]? = some (.cells cur 5 (0, 0))) (hcs : cur.size = c) (hlc : l ≤ c) (hn : 1 ≤ n) (hlim : l + n ≤ 140737488355328) (hc2 : c ≤ 140737488355328) (h1 : ∀ v ∈ cur.toList.take l, v.oneCell' = true) :
    Calls Tryf.prog 37 #[.slice (some ⟨g, 0, none⟩) l c, .int .i64 n] w fun e w' => ∃ cap2 cells, e = .returned (.slice (some ⟨w.heap.size, 0, none⟩) l cap2) ∧ w'.heap[w.heap.size]? = some (.cells cells 5 (0, 0)) ∧
      cells.size = cap2 ∧ cells.toList.take l = cur.toList.take l ∧ l + n ≤ cap2 ∧ cap2 ≤ maxLen ∧ Below w.heap.size w w' := Any.bytes_growSlice_row Tryf.laysM290 g l c n cur w hg hcs hlc hn hlim hc2 h1
open Go.RowKit in
/-- .. OF THE NIL SLICE: a new row with room for n. (LAID: no walk: one application.) -/
theorem Tryf.bytes_growSlice_nil (n : Nat) (w : World) (hn : 1 ≤ n) (hlim : n ≤ 140737488355328) :
    Calls Tryf.prog 37 #[.slice none 0 0, .int .i64 n] w fun e w' => ∃ cap2 cells, e = .returned (.slice (some ⟨w.heap.size, 0, none⟩) 0 cap2) ∧ w'.heap[w.heap.size]? = some (.cells cells 5 (0, 0)) ∧
      cells.size = cap2 ∧ n ≤ cap2 ∧ cap2 ≤ maxLen ∧ Below w.heap.size w w' := Any.bytes_growSlice_nil Tryf.laysM290 n w hn hlim
def Tryf.laysM182_ren : Go.Shelf.Ren := ⟨fun | 182 => 11 | n => n, fun | 130 => 33 | 9 => 9 | 4 => 4 | 0 => 0 | 93 => 31 | 37 => 27 | 3 => 3 | 91 => 29 | 5 => 5 | n => n, fun | n => n⟩
theorem Tryf.laysM182 : Go.Proofs.LaysM.n182 Tryf.prog Tryf.laysM182_ren := {
  mixed := by kernel_rfl
  f182 := Tryf.func11.trans (congrArg some (by kernel_rfl))
  t0 := Tryf.underlying0
  a0 := Tryf.isAgg0
  z0 := Tryf.sizeOf0
  v0 := Tryf.zeroValue0
  t3 := Tryf.underlying3
  a3 := Tryf.isAgg3
  z3 := Tryf.sizeOf3
  v3 := Tryf.zeroValue3
  t4 := Tryf.underlying4
  a4 := Tryf.isAgg4
  z4 := Tryf.sizeOf4
  v4 := Tryf.zeroValue4
  t9 := Tryf.underlying9
  a9 := Tryf.isAgg9
  z9 := Tryf.sizeOf9
  v9 := Tryf.zeroValue9
  t37 := Tryf.underlying27
  a37 := Tryf.isAgg27
  z37 := Tryf.sizeOf27
  v37 := Tryf.zeroValue27
  t93 := Tryf.underlying31
  a93 := Tryf.isAgg31
  z93 := Tryf.sizeOf31
  v93 := Tryf.zeroValue31
  t130 := Tryf.underlying33
  a130 := Tryf.isAgg33
  z130 := Tryf.sizeOf33
  v130 := Tryf.zeroValue33
  t5 := Tryf.underlying5
  a5 := Tryf.isAgg5
  z5 := Tryf.sizeOf5
  v5 := Tryf.zeroValue5
  t91 := Tryf.underlying29
  a91 := Tryf.isAgg29
  z91 := Tryf.sizeOf29
  v91 := Tryf.zeroValue29
  i0 := by kernel_rfl
  i3 := by kernel_rfl
  i4 := by kernel_rfl
  i5 := by kernel_rfl
  i9 := by kernel_rfl
  i37 := by kernel_rfl
  i91 := by kernel_rfl
  i93 := by kernel_rfl
  i130 := by kernel_rfl }
open Go.RowKit in
/-- (*bytes.Buffer).String: "String returns the contents of the unread portion of the buffer as a string.": THE BYTES THAT WERE WRITTEN. The world is as it was but for the count of draws (the statement has two reads: its order is drawn). (LAID: no walk: one application.) -/
theorem Tryf.Buffer_String (B b : Nat) (l : List UInt8) (w : World) (h : Lib.IsBuffer 31 5 B b (Lib.byteCells l) w) :
    Calls Tryf.prog 11 #[.pointer (some ⟨b, 0, none⟩)] w fun e w' => e = .returned (.string ⟨l.toArray⟩) ∧ ∃ n, w' = w.drewN n := Any.Buffer_String Tryf.laysM182 B b l w h
def Tryf.laysM184_ren : Go.Shelf.Ren := ⟨fun | 184 => 32 | n => n, fun | 130 => 33 | 0 => 0 | 93 => 31 | 37 => 27 | 3 => 3 | 91 => 29 | 5 => 5 | n => n, fun | n => n⟩
theorem Tryf.laysM184 : Go.Proofs.LaysM.n184 Tryf.prog Tryf.laysM184_ren := {
  mixed := by kernel_rfl
  f184 := Tryf.func32.trans (congrArg some (by kernel_rfl))
  t0 := Tryf.underlying0
  a0 := Tryf.isAgg0
  z0 := Tryf.sizeOf0
  v0 := Tryf.zeroValue0
  t3 := Tryf.underlying3
  a3 := Tryf.isAgg3
  z3 := Tryf.sizeOf3
  v3 := Tryf.zeroValue3
  t37 := Tryf.underlying27
  a37 := Tryf.isAgg27
  z37 := Tryf.sizeOf27
  v37 := Tryf.zeroValue27
  t91 := Tryf.underlying29
  a91 := Tryf.isAgg29
  z91 := Tryf.sizeOf29
  v91 := Tryf.zeroValue29
  t93 := Tryf.underlying31
  a93 := Tryf.isAgg31
  z93 := Tryf.sizeOf31
  v93 := Tryf.zeroValue31
  t130 := Tryf.underlying33
  a130 := Tryf.isAgg33
  z130 := Tryf.sizeOf33
  v130 := Tryf.zeroValue33
  t5 := Tryf.underlying5
  a5 := Tryf.isAgg5
  z5 := Tryf.sizeOf5
  v5 := Tryf.zeroValue5
  i0 := by kernel_rfl
  i3 := by kernel_rfl
  i5 := by kernel_rfl
  i37 := by kernel_rfl
  i91 := by kernel_rfl
  i93 := by kernel_rfl
  i130 := by kernel_rfl }
open Go.RowKit in
/-- (*bytes.Buffer).Reset: "Reset resets the buffer to be empty, but it retains the underlying storage for use by future writes." (LAID: no walk: one application.) -/
theorem Tryf.Buffer_Reset_kept (B b : Nat) (bs : List Value) (w : World) (h : Lib.IsBuffer 31 5 B b bs w) :
    Calls Tryf.prog 32 #[.pointer (some ⟨b, 0, none⟩)] w fun e w' => e = .returned (.tuple #[]) ∧ Lib.IsBuffer 31 5 B b [] w' ∧ Below B w w' ∧ Lib.OthersKept 5 (some b) w w' := Any.Buffer_Reset_kept Tryf.laysM184 B b bs w h
def Tryf.laysM252_ren : Go.Shelf.Ren := ⟨fun | 252 => 35 | 181 => 36 | 184 => 32 | 251 => 34 | 290 => 37 | 324 => 38 | n => n, fun | 130 => 33 | 3 => 3 | 4 => 4 | 0 => 0 | 93 => 31 | 131 => 71 | 37 => 27 | 75 => 51 | 91 => 29 | 20 => 20 | 5 => 5 | 80 => 48 | 9 => 9 | n => n, fun | 14 => 0 | n => n⟩
theorem Tryf.laysM252 : Go.Proofs.LaysM.n252 Tryf.prog Tryf.laysM252_ren := {
  mixed := by kernel_rfl
  f181 := Tryf.func36.trans (congrArg some (by kernel_rfl))
  f184 := Tryf.func32.trans (congrArg some (by kernel_rfl))
  f251 := Tryf.func34.trans (congrArg some (by kernel_rfl))
  f252 := Tryf.func35.trans (congrArg some (by kernel_rfl))
  f290 := Tryf.func37.trans (congrArg some (by kernel_rfl))
  f324 := Tryf.func38.trans (congrArg some (by kernel_rfl))
  t0 := Tryf.underlying0
  a0 := Tryf.isAgg0
  z0 := Tryf.sizeOf0
  v0 := Tryf.zeroValue0
  t3 := Tryf.underlying3
  a3 := Tryf.isAgg3
  z3 := Tryf.sizeOf3
  v3 := Tryf.zeroValue3
  t4 := Tryf.underlying4
  a4 := Tryf.isAgg4
  z4 := Tryf.sizeOf4
  v4 := Tryf.zeroValue4
  t20 := Tryf.underlying20
  a20 := Tryf.isAgg20
  z20 := Tryf.sizeOf20
  v20 := Tryf.zeroValue20
  t37 := Tryf.underlying27
  a37 := Tryf.isAgg27
  z37 := Tryf.sizeOf27
  v37 := Tryf.zeroValue27
  t75 := Tryf.underlying51
  a75 := Tryf.isAgg51
  z75 := Tryf.sizeOf51
  v75 := Tryf.zeroValue51
  t91 := Tryf.underlying29
  a91 := Tryf.isAgg29
  z91 := Tryf.sizeOf29
  v91 := Tryf.zeroValue29
  t93 := Tryf.underlying31
  a93 := Tryf.isAgg31
  z93 := Tryf.sizeOf31
  v93 := Tryf.zeroValue31
  t130 := Tryf.underlying33
  a130 := Tryf.isAgg33
  z130 := Tryf.sizeOf33
  v130 := Tryf.zeroValue33
  t131 := Tryf.underlying71
  a131 := Tryf.isAgg71
  z131 := Tryf.sizeOf71
  v131 := Tryf.zeroValue71
  g14 := by kernel_rfl
  t5 := Tryf.underlying5
  a5 := Tryf.isAgg5
  z5 := Tryf.sizeOf5
  v5 := Tryf.zeroValue5
  t9 := Tryf.underlying9
  a9 := Tryf.isAgg9
  z9 := Tryf.sizeOf9
  v9 := Tryf.zeroValue9
  t80 := Tryf.underlying48
  a80 := Tryf.isAgg48
  z80 := Tryf.sizeOf48
  v80 := Tryf.zeroValue48
  i0 := by kernel_rfl
  i3 := by kernel_rfl
  i4 := by kernel_rfl
  i5 := by kernel_rfl
  i9 := by kernel_rfl
  i20 := by kernel_rfl
  i37 := by kernel_rfl
  i75 := by kernel_rfl
  i80 := by kernel_rfl
  i91 := by kernel_rfl
  i93 := by kernel_rfl
  i130 := by kernel_rfl
  i131 := by kernel_rfl
  m14 := by kernel_rfl }
open Go.RowKit in
/-- grow, WHERE THE BUFFER HOLDS A ROW, NO BYTE IN IT (behind a Reset), AND THE ROW HAS NO ROOM: growSlice. (THE TEXT OF 'Buffer_grow_row' WITH 0 FOR l, BY PROGRAM: the walk parts on 'm == 0' and writes 0 for l throughout the goal: facts that still say l then do not strike: so l is laid in ahead of the walk.) (LAID: no walk: one application.) -/
theorem Tryf.Buffer_grow_row0_own (B b g cap n : Nat) (lr : Int) (cur : Array Value) (bs : List Value) (w : World) (hB : B ≤ b) (hBw : B ≤ w.heap.size) (hbk : w.heap[b]? = some (.cells #[.slice (some ⟨g, 0, none⟩) 0 cap, .int .i64 0, .int .i8 lr] 31 (0, 0))) (hl : bs.length = 0) (hBg : B ≤ g) (hg : w.heap[g]? = some (.cells cur 5 (0, 0))) (hlc : 0 ≤ cap) (hcm : cap ≤ maxLen) (hcs : cur.size = cap) (htake : cur.toList.take 0 = bs) (hgb : g ≠ b) (h1 : ∀ v ∈ bs, v.oneCell' = true) (hn : 1 ≤ n) (hroom : cap - 0 < n) (hlim : 0 + n ≤ 140737488355328) :
    Calls Tryf.prog 35 #[.pointer (some ⟨b, 0, none⟩), .int .i64 n] w fun e w' => e = .returned (.int .i64 0) ∧ ∃ xs, xs.length = n ∧ Lib.IsBuffer 31 5 B b (bs ++ xs) w' ∧ Below B w w' ∧ Lib.OthersKept 5 (some b) w w' ∧ w.grownBy w' (some b) := Any.Buffer_grow_row0_own Tryf.laysM252 B b g cap n lr cur bs w hB hBw hbk hl hBg hg hlc hcm hcs htake hgb h1 hn hroom hlim
open Go.RowKit in
/-- grow, WHERE THE BUFFER HOLDS A ROW THAT HAS NO ROOM: growSlice. (LAID: no walk: one application.) -/
theorem Tryf.Buffer_grow_row_own (B b g l cap n : Nat) (lr : Int) (cur : Array Value) (bs : List Value) (w : World) (hB : B ≤ b) (hBw : B ≤ w.heap.size) (hbk : w.heap[b]? = some (.cells #[.slice (some ⟨g, 0, none⟩) l cap, .int .i64 0, .int .i8 lr] 31 (0, 0))) (hl : bs.length = l) (hBg : B ≤ g) (hg : w.heap[g]? = some (.cells cur 5 (0, 0))) (hlc : l ≤ cap) (hcm : cap ≤ maxLen) (hcs : cur.size = cap) (htake : cur.toList.take l = bs) (hgb : g ≠ b) (h1 : ∀ v ∈ bs, v.oneCell' = true) (hn : 1 ≤ n) (hroom : cap - l < n) (hlim : l + n ≤ 140737488355328) :
    Calls Tryf.prog 35 #[.pointer (some ⟨b, 0, none⟩), .int .i64 n] w fun e w' => e = .returned (.int .i64 l) ∧ ∃ xs, xs.length = n ∧ Lib.IsBuffer 31 5 B b (bs ++ xs) w' ∧ Below B w w' ∧ Lib.OthersKept 5 (some b) w w' ∧ w.grownBy w' (some b) := Any.Buffer_grow_row_own Tryf.laysM252 B b g l cap n lr cur bs w hB hBw hbk hl hBg hg hlc hcm hcs htake hgb h1 hn hroom hlim
open Go.RowKit in
/-- grow, 'buf' nil, n AT MOST 64: 'b.buf = make([]byte, n, smallBufferSize)'. (LAID: no walk: one application.) -/
theorem Tryf.Buffer_grow_nil_small_own (B b n : Nat) (lr : Int) (w : World) (hB : B ≤ b) (hBw : B ≤ w.heap.size) (hbk : w.heap[b]? = some (.cells #[.slice none 0 0, .int .i64 0, .int .i8 lr] 31 (0, 0))) (hn : 1 ≤ n) (h64 : n ≤ 64) :
    Calls Tryf.prog 35 #[.pointer (some ⟨b, 0, none⟩), .int .i64 n] w fun e w' => e = .returned (.int .i64 0) ∧ ∃ xs, xs.length = n ∧ Lib.IsBuffer 31 5 B b xs w' ∧ Below B w w' ∧ Lib.OthersKept 5 (some b) w w' ∧ w.grownBy w' (some b) := Any.Buffer_grow_nil_small_own Tryf.laysM252 B b n lr w hB hBw hbk hn h64
open Go.RowKit in
/-- grow, 'buf' nil, n ABOVE 64: growSlice of the nil slice. (LAID: no walk: one application.) -/
theorem Tryf.Buffer_grow_nil_big_own (B b n : Nat) (lr : Int) (w : World) (hB : B ≤ b) (hBw : B ≤ w.heap.size) (hbk : w.heap[b]? = some (.cells #[.slice none 0 0, .int .i64 0, .int .i8 lr] 31 (0, 0))) (h64 : 64 < n) (hlim : n ≤ 140737488355328) :
    Calls Tryf.prog 35 #[.pointer (some ⟨b, 0, none⟩), .int .i64 n] w fun e w' => e = .returned (.int .i64 0) ∧ ∃ xs, xs.length = n ∧ Lib.IsBuffer 31 5 B b xs w' ∧ Below B w w' ∧ Lib.OthersKept 5 (some b) w w' ∧ w.grownBy w' (some b) := Any.Buffer_grow_nil_big_own Tryf.laysM252 B b n lr w hB hBw hbk h64 hlim
open Go.RowKit in
/-- tryGrowByReslice: EITHER there is room: the place to write at is the old length, and the buffer holds the old bytes and n more of whatever lay there; OR there is none: nothing turns, and 'Lib.NoRoom' is what grow asks. (LAID: no walk: one application.) -/
theorem Tryf.Buffer_tryGrow_own (B b n : Nat) (bs : List Value) (w : World) (h : Lib.IsBuffer 31 5 B b bs w) :
    Calls Tryf.prog 34 #[.pointer (some ⟨b, 0, none⟩), .int .i64 n] w fun e w' =>
      (e = .returned (.tuple #[.int .i64 bs.length, .bool true]) ∧ ∃ xs, xs.length = n ∧ Lib.IsBuffer 31 5 B b (bs ++ xs) w' ∧ Below B w w' ∧ Lib.OthersKept 5 (some b) w w' ∧ w.grownBy w' (some b)) ∨
      (e = .returned (.tuple #[.int .i64 0, .bool false]) ∧ w' = w ∧ Lib.NoRoom b n w) := Any.Buffer_tryGrow_own Tryf.laysM251 B b n bs w h
open Go.RowKit in
/-- (*bytes.Buffer).grow: "grow grows the buffer to guarantee space for n more bytes. It returns the index where bytes should be written.": WHERE THERE IS NO ROOM; UNDER Go's OWN LIMIT (the new length takes at most 2^47 bytes): the old length; the buffer holds the old bytes and n more of whatever. (LAID: no walk: one application.) -/
theorem Tryf.Buffer_grow_own (B b n : Nat) (bs : List Value) (w : World) (h : Lib.IsBuffer 31 5 B b bs w) (hnr : Lib.NoRoom b n w) (hBw : B ≤ w.heap.size) (h1 : ∀ v ∈ bs, v.oneCell' = true) (hlim : bs.length + n ≤ 140737488355328) :
    Calls Tryf.prog 35 #[.pointer (some ⟨b, 0, none⟩), .int .i64 n] w fun e w' => e = .returned (.int .i64 bs.length) ∧ ∃ xs, xs.length = n ∧ Lib.IsBuffer 31 5 B b (bs ++ xs) w' ∧ Below B w w' ∧ Lib.OthersKept 5 (some b) w w' ∧ w.grownBy w' (some b) := Any.Buffer_grow_own Tryf.laysM252 B b n bs w h hnr hBw h1 hlim
def Tryf.laysM180_ren : Go.Shelf.Ren := ⟨fun | 180 => 33 | 251 => 34 | 252 => 35 | 181 => 36 | 184 => 32 | 290 => 37 | 324 => 38 | n => n, fun | 130 => 33 | 37 => 27 | 3 => 3 | 75 => 51 | 0 => 0 | 93 => 31 | 91 => 29 | 131 => 71 | 4 => 4 | 20 => 20 | 5 => 5 | 80 => 48 | 9 => 9 | n => n, fun | 14 => 0 | n => n⟩
theorem Tryf.laysM180 : Go.Proofs.LaysM.n180 Tryf.prog Tryf.laysM180_ren := {
  mixed := by kernel_rfl
  f180 := Tryf.func33.trans (congrArg some (by kernel_rfl))
  f181 := Tryf.func36.trans (congrArg some (by kernel_rfl))
  f184 := Tryf.func32.trans (congrArg some (by kernel_rfl))
  f251 := Tryf.func34.trans (congrArg some (by kernel_rfl))
  f252 := Tryf.func35.trans (congrArg some (by kernel_rfl))
  f290 := Tryf.func37.trans (congrArg some (by kernel_rfl))
  f324 := Tryf.func38.trans (congrArg some (by kernel_rfl))
  t0 := Tryf.underlying0
  a0 := Tryf.isAgg0
  z0 := Tryf.sizeOf0
  v0 := Tryf.zeroValue0
  t3 := Tryf.underlying3
  a3 := Tryf.isAgg3
  z3 := Tryf.sizeOf3
  v3 := Tryf.zeroValue3
  t4 := Tryf.underlying4
  a4 := Tryf.isAgg4
  z4 := Tryf.sizeOf4
  v4 := Tryf.zeroValue4
  t20 := Tryf.underlying20
  a20 := Tryf.isAgg20
  z20 := Tryf.sizeOf20
  v20 := Tryf.zeroValue20
  t37 := Tryf.underlying27
  a37 := Tryf.isAgg27
  z37 := Tryf.sizeOf27
  v37 := Tryf.zeroValue27
  t75 := Tryf.underlying51
  a75 := Tryf.isAgg51
  z75 := Tryf.sizeOf51
  v75 := Tryf.zeroValue51
  t91 := Tryf.underlying29
  a91 := Tryf.isAgg29
  z91 := Tryf.sizeOf29
  v91 := Tryf.zeroValue29
  t93 := Tryf.underlying31
  a93 := Tryf.isAgg31
  z93 := Tryf.sizeOf31
  v93 := Tryf.zeroValue31
  t130 := Tryf.underlying33
  a130 := Tryf.isAgg33
  z130 := Tryf.sizeOf33
  v130 := Tryf.zeroValue33
  t131 := Tryf.underlying71
  a131 := Tryf.isAgg71
  z131 := Tryf.sizeOf71
  v131 := Tryf.zeroValue71
  g14 := by kernel_rfl
  t5 := Tryf.underlying5
  a5 := Tryf.isAgg5
  z5 := Tryf.sizeOf5
  v5 := Tryf.zeroValue5
  t9 := Tryf.underlying9
  a9 := Tryf.isAgg9
  z9 := Tryf.sizeOf9
  v9 := Tryf.zeroValue9
  t80 := Tryf.underlying48
  a80 := Tryf.isAgg48
  z80 := Tryf.sizeOf48
  v80 := Tryf.zeroValue48
  i0 := by kernel_rfl
  i3 := by kernel_rfl
  i4 := by kernel_rfl
  i5 := by kernel_rfl
  i9 := by kernel_rfl
  i20 := by kernel_rfl
  i37 := by kernel_rfl
  i75 := by kernel_rfl
  i80 := by kernel_rfl
  i91 := by kernel_rfl
  i93 := by kernel_rfl
  i130 := by kernel_rfl
  i131 := by kernel_rfl
  m14 := by kernel_rfl }
open Go.RowKit in
/-- (*bytes.Buffer).Write: "Write appends the contents of p to the buffer, growing the buffer as needed. The return value n is the length of p; err is always nil." (LAID: no walk: one application.) -/
theorem Tryf.Buffer_Write_any (B b : Nat) (bs cs : List Value) (a : Addr) (n c : Nat) (w : World) (h : Lib.IsBuffer 31 5 B b bs w) (hBw : B ≤ w.heap.size) (h1 : ∀ v ∈ bs, v.oneCell' = true) (hn : cs.length = n) (hab : a.block ≠ b) (hsrc : ∀ j v, cs[j]? = some v → w.cell? (a.add j) = some v) (h1c : ∀ v ∈ cs, v.oneCell' = true) (hlim : bs.length + n ≤ 140737488355328) :
    Calls Tryf.prog 33 #[.pointer (some ⟨b, 0, none⟩), .slice (some a) n c] w fun e w' => e = .returned (.tuple #[.int .i64 n, .nilIface]) ∧ Lib.IsBuffer 31 5 B b (bs ++ cs) w' ∧ Below B w w' ∧ Lib.OthersKept 5 (some b) w w' := Any.Buffer_Write_any Tryf.laysM180 B b bs cs a n c w h hBw h1 hn hab hsrc h1c hlim
open Go.RowKit in
/-- (*bytes.Buffer).String: "String returns the contents of the unread portion of the buffer as a string.": THE BYTES THAT WERE WRITTEN. The world is as it was but for the count of draws (the statement has two reads: its order is drawn). (LAID: no walk: one application.) -/
theorem Tryf.Buffer_String_at (T : TypeId) (R : Nat → Option Value) (B b q : Nat) (l : List UInt8) (w : World) (h : LibA.IsBuffer T R 5 B b q (Lib.byteCells l) w) :
    Calls Tryf.prog 11 #[.pointer (some ⟨b, q, none⟩)] w fun e w' => e = .returned (.string ⟨l.toArray⟩) ∧ ∃ n, w' = w.drewN n := Any.Buffer_String_at Tryf.laysM182 T R B b q l w h
end Go.Proofs
