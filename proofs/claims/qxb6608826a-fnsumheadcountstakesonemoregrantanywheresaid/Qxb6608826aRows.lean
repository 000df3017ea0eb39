/-
  No cell of these rows narrows 'for every input' (looked for: loops, veiled, ifaces, maps, wideKeys, modest, calm, conditions, laid).
  DERIVED. THE GIVEN ROWS OF THIS SEAT. 2 by the template 'for every input the law returns true; each argument reads behind the call as it read before'; 0 by the template 'total and deterministic' (their statements: Qxb6608826aTotals.lean).
  GIVEN WITH THE SEED: the statements are not yours to turn. If you find one false, say at which input.
  Laid BY PROGRAM, IN A SANDBOX (cutbox-rows.mjs): the forced cells as the released guide's own fill.sh prints them over the translation b0e549204cfc10e7… (all of the seat's roots in one cut). By AI agents, Wed Nov 11 2026. No macro, syntax, notation, axiom, sorry.
-/
import Derived.Test.Qxb6608826aChecked
import GoSem.Claim
import GoSem.ClaimJoined
import GoSem.ClaimMapViews
import Derived.JoinedTies
import Derived.KernelRfl
namespace Go.Proofs.Qxb6608826a
/- THE CELL 'sum', in the pinned program and in every row, IS THE sha256 OF THE DUMP (.gsa) THAT Qxb6608826aProg.lean LOADS. Nothing in Lean hashes anything: it is a label: what it is worth is what the hold of that sum in a sandbox is worth. -/
noncomputable def Try.pinned : Pinned := { name := "qxb6608826a", sum := "b0e549204cfc10e7bd8816fc9ed8e50956482fe1a620eb36c3e21d8407f5a5ff", checked := Try.checked }
namespace Rows
def none {H : Type} : Left H := { results := [], args := [] }

/-- 'zzlaws_internal_plan_b1.FnSumHeadcountsAddsUpOverAnyCut': WHATEVER THE INPUT: true; the input reads as it did. -/
def fnSumHeadcountsAddsUpOverAnyCutSpec : ChangeSpec := { name := "fnSumHeadcountsAddsUpOverAnyCut", fn := fun _ => fun
  | [d1, d2] => { results := [.lit (.bool true)], args := [d1, d2] }
  | _ => none }
def fnSumHeadcountsAddsUpOverAnyCutRow : OpenClaim := { program := "qxb6608826a", sum := "b0e549204cfc10e7bd8816fc9ed8e50956482fe1a620eb36c3e21d8407f5a5ff", func := "example.com/vestbook/vestbook/zzlaws_internal_plan_b1.FnSumHeadcountsAddsUpOverAnyCut", spec := "fnSumHeadcountsAddsUpOverAnyCut", apart := false }
def FnSumHeadcountsAddsUpOverAnyCutSaid : Prop := fnSumHeadcountsAddsUpOverAnyCutRow.holds Try.pinned (OpenSpec.ofChange fnSumHeadcountsAddsUpOverAnyCutSpec)

/-- ITS FALSE NEIGHBOUR: 'it returns false'. Refute it at one input. -/
def fnSumHeadcountsAddsUpOverAnyCutWrong : ChangeSpec := { name := "fnSumHeadcountsAddsUpOverAnyCut", fn := fun _ => fun
  | [d1, d2] => { results := [.lit (.bool false)], args := [d1, d2] }
  | _ => none }
def FnSumHeadcountsAddsUpOverAnyCutWrongFalsely : Prop := fnSumHeadcountsAddsUpOverAnyCutRow.holds Try.pinned (OpenSpec.ofChange fnSumHeadcountsAddsUpOverAnyCutWrong)

/-- 'zzlaws_internal_plan_b1.FnSumHeadcountsTakesOneMoreGrantAnywhere': WHATEVER THE INPUT: true; the input reads as it did. -/
def fnSumHeadcountsTakesOneMoreGrantAnywhereSpec : ChangeSpec := { name := "fnSumHeadcountsTakesOneMoreGrantAnywhere", fn := fun _ => fun
  | [d1, d2, d3] => { results := [.lit (.bool true)], args := [d1, d2, d3] }
  | _ => none }
def fnSumHeadcountsTakesOneMoreGrantAnywhereRow : OpenClaim := { program := "qxb6608826a", sum := "b0e549204cfc10e7bd8816fc9ed8e50956482fe1a620eb36c3e21d8407f5a5ff", func := "example.com/vestbook/vestbook/zzlaws_internal_plan_b1.FnSumHeadcountsTakesOneMoreGrantAnywhere", spec := "fnSumHeadcountsTakesOneMoreGrantAnywhere", apart := false }
def FnSumHeadcountsTakesOneMoreGrantAnywhereSaid : Prop := fnSumHeadcountsTakesOneMoreGrantAnywhereRow.holds Try.pinned (OpenSpec.ofChange fnSumHeadcountsTakesOneMoreGrantAnywhereSpec)

/-- ITS FALSE NEIGHBOUR: 'it returns false'. Refute it at one input. -/
def fnSumHeadcountsTakesOneMoreGrantAnywhereWrong : ChangeSpec := { name := "fnSumHeadcountsTakesOneMoreGrantAnywhere", fn := fun _ => fun
  | [d1, d2, d3] => { results := [.lit (.bool false)], args := [d1, d2, d3] }
  | _ => none }
def FnSumHeadcountsTakesOneMoreGrantAnywhereWrongFalsely : Prop := fnSumHeadcountsTakesOneMoreGrantAnywhereRow.holds Try.pinned (OpenSpec.ofChange fnSumHeadcountsTakesOneMoreGrantAnywhereWrong)

end Rows
end Go.Proofs.Qxb6608826a
