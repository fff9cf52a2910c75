/-
  DERIVED: THE SHELF's CONTRACTS AT THIS DUMP, IN PLAIN WORDS (tools/lay-plain.mjs out of 'TryfShelf.lean', which tools/lay-shelf.mjs wrote): THE SAME DECLARATIONS UNDER THE SAME NAMES: 'import', 'namespace', 'open', 'def', 'theorem' AND NOTHING ELSE: no command of the shelf's: FOR A HAND-IN. Each laying: the table of numbers ('.._ren') and one theorem, a field a fact of the dump's own or the kernel's comparison; each contract: ONE APPLICATION.
-/
import Derived.Shelf.Spec.DecodeRune
import Derived.Test.YtkhekeepadeldaaFmtProg
namespace Go.Proofs
open Go.Shelf
def Tryf.lays7n32_ren : Go.Shelf.Ren := ⟨fun | 32 => 29 | 49 => 32 | n => n, fun | 30 => 22 | 21 => 21 | 3 => 3 | 0 => 0 | 5 => 5 | 4 => 4 | 33 => 62 | 66 => 69 | 25 => 70 | 69 => 73 | 68 => 72 | n => n, fun | 2 => 0 | 3 => 1 | n => n⟩
theorem Tryf.lays7n32 : Go.Proofs.Lays7.n32 Tryf.prog Tryf.lays7n32_ren := {
  mixed := by kernel_rfl
  f32 := Tryf.func29.trans (congrArg some (by kernel_rfl))
  f49 := Tryf.func32.trans (congrArg some (by kernel_rfl))
  t0 := Tryf.underlying0
  a0 := Tryf.isAgg0
  z0 := Tryf.sizeOf0
  v0 := Tryf.zeroValue0
  i0 := by kernel_rfl
  t3 := Tryf.underlying3
  a3 := Tryf.isAgg3
  z3 := Tryf.sizeOf3
  v3 := Tryf.zeroValue3
  i3 := by kernel_rfl
  t4 := Tryf.underlying4
  a4 := Tryf.isAgg4
  z4 := Tryf.sizeOf4
  v4 := Tryf.zeroValue4
  i4 := by kernel_rfl
  t5 := Tryf.underlying5
  a5 := Tryf.isAgg5
  z5 := Tryf.sizeOf5
  v5 := Tryf.zeroValue5
  i5 := by kernel_rfl
  t21 := Tryf.underlying21
  a21 := Tryf.isAgg21
  z21 := Tryf.sizeOf21
  v21 := Tryf.zeroValue21
  i21 := by kernel_rfl
  t25 := Tryf.underlying70
  a25 := Tryf.isAgg70
  z25 := Tryf.sizeOf70
  v25 := Tryf.zeroValue70
  i25 := by kernel_rfl
  t30 := Tryf.underlying22
  a30 := Tryf.isAgg22
  z30 := Tryf.sizeOf22
  v30 := Tryf.zeroValue22
  i30 := by kernel_rfl
  t33 := Tryf.underlying62
  a33 := Tryf.isAgg62
  z33 := Tryf.sizeOf62
  v33 := Tryf.zeroValue62
  i33 := by kernel_rfl
  t66 := Tryf.underlying69
  a66 := Tryf.isAgg69
  z66 := Tryf.sizeOf69
  t68 := Tryf.underlying72
  a68 := Tryf.isAgg72
  z68 := Tryf.sizeOf72
  v68 := Tryf.zeroValue72
  i68 := by kernel_rfl
  t69 := Tryf.underlying73
  a69 := Tryf.isAgg73
  z69 := Tryf.sizeOf73
  v69 := Tryf.zeroValue73
  i69 := by kernel_rfl
  g2 := by kernel_rfl
  g3 := by kernel_rfl }
open Go.RowKit Go.Lib in
theorem Tryf.utf8_DecodeRune (s : ByteArray) (b off cap : Nat) (w : World) (hT : Lib.Utf8Tabs 0 1 w) (hp : ∀ j, j < s.size → w.cell? ⟨b, off + j, none⟩ = some (.int .u8 (s.get! j).toNat)) :
    Calls Tryf.prog 29 #[.slice (some ⟨b, off, none⟩) s.size cap] w fun e w' => e = .returned (.tuple #[.int .i32 (Lib.decodeGo s).1, .int .i64 (Lib.decodeGo s).2]) ∧ Below w.heap.size w w' := Any7.utf8_DecodeRune Tryf.lays7n32 s b off cap w hT hp
end Go.Proofs
