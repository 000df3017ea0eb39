/-
  NARROWER THAN 'FOR EVERY INPUT', by the rows' own cells (each row's printed sentence says how): FnCheckBatchWorkersFromOneToMax: ifaces, laid · FnCheckBatchOnlyMaxIsHeld: ifaces, laid.
  DERIVED. THE GIVEN ROWS OF THIS SEAT. 2 by the template 'for every input the law returns true; each argument reads behind the call as it read before'; 0 by the template 'total and deterministic' (their statements: Qxb6608755aFmtTotals.lean).
  GIVEN WITH THE SEED: the statements are not yours to turn. If you find one false, say at which input.
  Laid BY PROGRAM, IN A SANDBOX (cutbox-rows.mjs): the forced cells as the released guide's own fill.sh prints them over the translation f6415ce79c929f2c… (all of the seat's roots in one cut). By AI agents, Wed Nov 11 2026. No macro, syntax, notation, axiom, sorry.
-/
import Derived.Test.Qxb6608755aFmtChecked
import GoSem.Claim
import GoSem.ClaimJoined
import GoSem.ClaimMapViews
import Derived.JoinedTies
import Derived.KernelRfl
namespace Go.Proofs.Qxb6608755aFmt
/- THE CELL 'sum', in the pinned program and in every row, IS THE sha256 OF THE DUMP (.gsa) THAT Qxb6608755aFmtProg.lean LOADS. Nothing in Lean hashes anything: it is a label: what it is worth is what the hold of that sum in a sandbox is worth. -/
noncomputable def Tryf.pinned : Pinned := { name := "qxb6608755afmt", sum := "f6415ce79c929f2c631db45a525db80708de2fba2fcb73da0a00991af50636fd", checked := Tryf.checked }
namespace Rows
def none {H : Type} : Left H := { results := [], args := [] }

/- WHAT THE LISTED PACKAGE-LEVEL VARIABLES READ AS WHEN THE CALL BEGINS. Each datum BY PROGRAM (the guide's laid-datum.mjs) off the statement by which the dump's own 'gosem.cut.vars' lays the variable. In a bare row this is a premise. The card (Qxb6608755aFmtCards.lean) ties it to the program's text. -/
def laid_example_com_gantry_gantry_internal_engine_ErrWorkers {H : Type} : DataW H := .iface "*errors.errorString" (.ptr (.agg [.lit (.string [116, 104, 101, 32, 109, 111, 115, 116, 32, 119, 111, 114, 107, 101, 114, 115, 32, 116, 104, 97, 116, 32, 114, 117, 110, 32, 97, 116, 32, 111, 110, 99, 101, 32, 105, 115, 32, 111, 117, 116, 32, 111, 102, 32, 114, 97, 110, 103, 101])]))

/-- 'zzlaws_internal_engine_b1.FnCheckBatchWorkersFromOneToMax': WHATEVER THE INPUT: true; the input reads as it did. -/
def fnCheckBatchWorkersFromOneToMaxSpec : ChangeSpec := { name := "fnCheckBatchWorkersFromOneToMax", vars := ["example.com/gantry/gantry/internal/engine.ErrWorkers"], fn := fun _ => fun
  | [d1, d2, g1] => { results := [.lit (.bool true)], args := [d1, d2], vars := [g1] }
  | _ => none }
def fnCheckBatchWorkersFromOneToMaxRow : OpenClaim := { program := "qxb6608755afmt", sum := "f6415ce79c929f2c631db45a525db80708de2fba2fcb73da0a00991af50636fd", func := "example.com/gantry/gantry/zzlaws_internal_engine_b1.FnCheckBatchWorkersFromOneToMax", spec := "fnCheckBatchWorkersFromOneToMax", stops := ["fmt.errorf"], inPlace := ["fmt.errorf", "internal/reflectlite.TypeOf"], unfollowed := true, recurses := true, named := ["example.com/gantry/gantry/internal/engine.ErrWorkers"], ifaces := true, apart := false, laid := [("example.com/gantry/gantry/internal/engine.ErrWorkers", laid_example_com_gantry_gantry_internal_engine_ErrWorkers)] }
/-- NO THEOREM (fmt's text is open here; it may be false): for the released tool's asking of the row's closed facts alone. THE STATEMENT IS 'FnCheckBatchWorkersFromOneToMaxToldSaid' (Qxb6608755aFmtCards.lean). -/
def FnCheckBatchWorkersFromOneToMaxFormAsk : Prop := fnCheckBatchWorkersFromOneToMaxRow.holds Tryf.pinned (OpenSpec.ofChange fnCheckBatchWorkersFromOneToMaxSpec)

/-- ITS FALSE NEIGHBOUR: 'it returns false'. Refute it at one input. -/
def fnCheckBatchWorkersFromOneToMaxWrong : ChangeSpec := { name := "fnCheckBatchWorkersFromOneToMax", vars := ["example.com/gantry/gantry/internal/engine.ErrWorkers"], fn := fun _ => fun
  | [d1, d2, g1] => { results := [.lit (.bool false)], args := [d1, d2], vars := [g1] }
  | _ => none }
def FnCheckBatchWorkersFromOneToMaxWrongFormAsk : Prop := fnCheckBatchWorkersFromOneToMaxRow.holds Tryf.pinned (OpenSpec.ofChange fnCheckBatchWorkersFromOneToMaxWrong)

/-- 'zzlaws_internal_engine_b1.FnCheckBatchOnlyMaxIsHeld': WHATEVER THE INPUT: true; the input reads as it did. -/
def fnCheckBatchOnlyMaxIsHeldSpec : ChangeSpec := { name := "fnCheckBatchOnlyMaxIsHeld", vars := ["example.com/gantry/gantry/internal/engine.ErrWorkers"], fn := fun _ => fun
  | [d1, d2, d3, g1] => { results := [.lit (.bool true)], args := [d1, d2, d3], vars := [g1] }
  | _ => none }
def fnCheckBatchOnlyMaxIsHeldRow : OpenClaim := { program := "qxb6608755afmt", sum := "f6415ce79c929f2c631db45a525db80708de2fba2fcb73da0a00991af50636fd", func := "example.com/gantry/gantry/zzlaws_internal_engine_b1.FnCheckBatchOnlyMaxIsHeld", spec := "fnCheckBatchOnlyMaxIsHeld", stops := ["fmt.errorf"], inPlace := ["fmt.errorf", "internal/reflectlite.TypeOf"], unfollowed := true, recurses := true, named := ["example.com/gantry/gantry/internal/engine.ErrWorkers"], ifaces := true, apart := false, laid := [("example.com/gantry/gantry/internal/engine.ErrWorkers", laid_example_com_gantry_gantry_internal_engine_ErrWorkers)] }
/-- NO THEOREM (fmt's text is open here; it may be false): for the released tool's asking of the row's closed facts alone. THE STATEMENT IS 'FnCheckBatchOnlyMaxIsHeldToldSaid' (Qxb6608755aFmtCards.lean). -/
def FnCheckBatchOnlyMaxIsHeldFormAsk : Prop := fnCheckBatchOnlyMaxIsHeldRow.holds Tryf.pinned (OpenSpec.ofChange fnCheckBatchOnlyMaxIsHeldSpec)

/-- ITS FALSE NEIGHBOUR: 'it returns false'. Refute it at one input. -/
def fnCheckBatchOnlyMaxIsHeldWrong : ChangeSpec := { name := "fnCheckBatchOnlyMaxIsHeld", vars := ["example.com/gantry/gantry/internal/engine.ErrWorkers"], fn := fun _ => fun
  | [d1, d2, d3, g1] => { results := [.lit (.bool false)], args := [d1, d2, d3], vars := [g1] }
  | _ => none }
def FnCheckBatchOnlyMaxIsHeldWrongFormAsk : Prop := fnCheckBatchOnlyMaxIsHeldRow.holds Tryf.pinned (OpenSpec.ofChange fnCheckBatchOnlyMaxIsHeldWrong)

end Rows
end Go.Proofs.Qxb6608755aFmt
