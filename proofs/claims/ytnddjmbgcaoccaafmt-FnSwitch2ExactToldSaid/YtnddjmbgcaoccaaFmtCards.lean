/-
  DERIVED. GIVEN WITH THE SEED: THE CARDS: each row of YtnddjmbgcaoccaaFmtRows.lean that lists a variable, with what it lists TIED to the program's text (the seventh form; the later family's looks); each row that meets fmt, with fmt's text TOLD by the authors' own Lean function (tested against real Go, not proved from fmt's source: count such statements apart). THE CARD IS WHAT COUNTS. Prove the row's statement (the work); the ties are given (YtnddjmbgcaoccaaFmtTie.lean); close each card by the builder's one call (the guide's Derived/Test/ToyasCard.lean, 'card_holds'). Laid BY PROGRAM, IN A SANDBOX (cutbox-door.mjs). By AI agents, Wed Nov 11 2026. No macro, syntax, notation, axiom, sorry.
-/
import Derived.Test.YtnddjmbgcaoccaaFmtRows
import GoSem.ClaimSeven
namespace Go.Proofs.YtnddjmbgcaoccaaFmt
namespace Rows

/-- THE TOLD AND TIED CARD OF 'n002_88.FnSwitch2Exact'. -/
def fnSwitch2ExactCard : Claim7 := { stood := { row := fnSwitch2ExactRow, standIns := [], harness := (true, "4f0d0b1e59df5e81344c64f4e136d07e896a0444d4997762a5bdb139cf28f5c9"), looks := false }, told := true, laidByText := true, laidKinds := [.data, .pinned], laidTests := true, laidLooks := .later, goes := false }
def FnSwitch2ExactToldSaid : Prop := Claim7.holds Tryf.pinned (.plain (OpenSpec.ofChange fnSwitch2ExactSpec)) fnSwitch2ExactCard
/-- ITS FALSE NEIGHBOUR. Refute it at one input. -/
def FnSwitch2ExactToldWrongFalsely : Prop := Claim7.holds Tryf.pinned (.plain (OpenSpec.ofChange fnSwitch2ExactWrong)) fnSwitch2ExactCard

/-- THE TOLD AND TIED CARD OF 'n002_88.FnSwitch3Exact'. -/
def fnSwitch3ExactCard : Claim7 := { stood := { row := fnSwitch3ExactRow, standIns := [], harness := (true, "4f0d0b1e59df5e81344c64f4e136d07e896a0444d4997762a5bdb139cf28f5c9"), looks := false }, told := true, laidByText := true, laidKinds := [.data, .pinned], laidTests := true, laidLooks := .later, goes := false }
def FnSwitch3ExactToldSaid : Prop := Claim7.holds Tryf.pinned (.plain (OpenSpec.ofChange fnSwitch3ExactSpec)) fnSwitch3ExactCard
/-- ITS FALSE NEIGHBOUR. Refute it at one input. -/
def FnSwitch3ExactToldWrongFalsely : Prop := Claim7.holds Tryf.pinned (.plain (OpenSpec.ofChange fnSwitch3ExactWrong)) fnSwitch3ExactCard

/-- THE TOLD AND TIED CARD OF 'n002_88.FnSwitch4Exact'. -/
def fnSwitch4ExactCard : Claim7 := { stood := { row := fnSwitch4ExactRow, standIns := [], harness := (true, "4f0d0b1e59df5e81344c64f4e136d07e896a0444d4997762a5bdb139cf28f5c9"), looks := false }, told := true, laidByText := true, laidKinds := [.data, .pinned], laidTests := true, laidLooks := .later, goes := false }
def FnSwitch4ExactToldSaid : Prop := Claim7.holds Tryf.pinned (.plain (OpenSpec.ofChange fnSwitch4ExactSpec)) fnSwitch4ExactCard
/-- ITS FALSE NEIGHBOUR. Refute it at one input. -/
def FnSwitch4ExactToldWrongFalsely : Prop := Claim7.holds Tryf.pinned (.plain (OpenSpec.ofChange fnSwitch4ExactWrong)) fnSwitch4ExactCard
end Rows
end Go.Proofs.YtnddjmbgcaoccaaFmt
