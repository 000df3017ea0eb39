/-
  DERIVED. GIVEN WITH THE SEED: THE CARDS: each row of Qxb6608755aFmtRows.lean that lists a variable, with what it lists TIED to the program's text (the seventh form; the later family's looks); each row that meets fmt, with fmt's text TOLD by the authors' own Lean function (tested against real Go, not proved from fmt's source: count such statements apart). THE CARD IS WHAT COUNTS. Prove the row's statement (the work); the ties are given (Qxb6608755aFmtTie.lean); close each card by the builder's one call (the guide's Derived/Test/ToyasCard.lean, 'card_holds'). Laid BY PROGRAM, IN A SANDBOX (cutbox-door.mjs). By AI agents, Wed Nov 11 2026. No macro, syntax, notation, axiom, sorry.
-/
import Derived.Test.Qxb6608755aFmtRows
import GoSem.ClaimSeven
namespace Go.Proofs.Qxb6608755aFmt
namespace Rows

/-- THE TOLD AND TIED CARD OF 'zzlaws_internal_engine_b1.FnCheckBatchWorkersFromOneToMax'. -/
def fnCheckBatchWorkersFromOneToMaxCard : Claim7 := { stood := { row := fnCheckBatchWorkersFromOneToMaxRow, standIns := [], harness := (true, "5a4a8aa06f084d3a45b50c8a02df00850e59d13471f33eeb4ec447082f50856f"), looks := true }, told := true, laidByText := true, laidKinds := [.sentinel], laidTests := true, laidLooks := .later, goes := false }
def FnCheckBatchWorkersFromOneToMaxToldSaid : Prop := Claim7.holds Tryf.pinned (.plain (OpenSpec.ofChange fnCheckBatchWorkersFromOneToMaxSpec)) fnCheckBatchWorkersFromOneToMaxCard
/-- ITS FALSE NEIGHBOUR. Refute it at one input. -/
def FnCheckBatchWorkersFromOneToMaxToldWrongFalsely : Prop := Claim7.holds Tryf.pinned (.plain (OpenSpec.ofChange fnCheckBatchWorkersFromOneToMaxWrong)) fnCheckBatchWorkersFromOneToMaxCard

/-- THE TOLD AND TIED CARD OF 'zzlaws_internal_engine_b1.FnCheckBatchOnlyMaxIsHeld'. -/
def fnCheckBatchOnlyMaxIsHeldCard : Claim7 := { stood := { row := fnCheckBatchOnlyMaxIsHeldRow, standIns := [], harness := (true, "5a4a8aa06f084d3a45b50c8a02df00850e59d13471f33eeb4ec447082f50856f"), looks := true }, told := true, laidByText := true, laidKinds := [.sentinel], laidTests := true, laidLooks := .later, goes := false }
def FnCheckBatchOnlyMaxIsHeldToldSaid : Prop := Claim7.holds Tryf.pinned (.plain (OpenSpec.ofChange fnCheckBatchOnlyMaxIsHeldSpec)) fnCheckBatchOnlyMaxIsHeldCard
/-- ITS FALSE NEIGHBOUR. Refute it at one input. -/
def FnCheckBatchOnlyMaxIsHeldToldWrongFalsely : Prop := Claim7.holds Tryf.pinned (.plain (OpenSpec.ofChange fnCheckBatchOnlyMaxIsHeldWrong)) fnCheckBatchOnlyMaxIsHeldCard
end Rows
end Go.Proofs.Qxb6608755aFmt
