/-
  No cell of these rows narrows 'for every input' (looked for: loops, veiled, ifaces, maps, wideKeys, modest, calm, conditions, laid).
  DERIVED. THE GIVEN ROWS OF THIS SEAT. 1 by the template 'for every input the law returns true; each argument reads behind the call as it read before'; 0 by the template 'total and deterministic' (their statements: Qxb6608839aTotals.lean).
  GIVEN WITH THE SEED: the statements are not yours to turn. If you find one false, say at which input.
  Laid BY PROGRAM, IN A SANDBOX (cutbox-rows.mjs): the forced cells as the released guide's own fill.sh prints them over the translation 646514d99601b570… (all of the seat's roots in one cut). By AI agents, Wed Nov 11 2026. No macro, syntax, notation, axiom, sorry.
-/
import Derived.Test.Qxb6608839aChecked
import GoSem.Claim
import GoSem.ClaimJoined
import GoSem.ClaimMapViews
import Derived.JoinedTies
import Derived.KernelRfl
namespace Go.Proofs.Qxb6608839a
/- THE CELL 'sum', in the pinned program and in every row, IS THE sha256 OF THE DUMP (.gsa) THAT Qxb6608839aProg.lean LOADS. Nothing in Lean hashes anything: it is a label: what it is worth is what the hold of that sum in a sandbox is worth. -/
noncomputable def Try.pinned : Pinned := { name := "qxb6608839a", sum := "646514d99601b570b6303f9ba3048aac48ef5560824546518a604220afef7665", checked := Try.checked }
namespace Rows
def none {H : Type} : Left H := { results := [], args := [] }

/-- 'zzlaws_internal_ring_b1.FnAnsweredByTiersNest': WHATEVER THE INPUT: true; the input reads as it did. -/
def fnAnsweredByTiersNestSpec : ChangeSpec := { name := "fnAnsweredByTiersNest", fn := fun _ => fun
  | [d1, d2, d3, d4] => { results := [.lit (.bool true)], args := [d1, d2, d3, d4] }
  | _ => none }
def fnAnsweredByTiersNestRow : OpenClaim := { program := "qxb6608839a", sum := "646514d99601b570b6303f9ba3048aac48ef5560824546518a604220afef7665", func := "example.com/ringproof/ringproof/zzlaws_internal_ring_b1.FnAnsweredByTiersNest", spec := "fnAnsweredByTiersNest", apart := false }
def FnAnsweredByTiersNestSaid : Prop := fnAnsweredByTiersNestRow.holds Try.pinned (OpenSpec.ofChange fnAnsweredByTiersNestSpec)

/-- ITS FALSE NEIGHBOUR: 'it returns false'. Refute it at one input. -/
def fnAnsweredByTiersNestWrong : ChangeSpec := { name := "fnAnsweredByTiersNest", fn := fun _ => fun
  | [d1, d2, d3, d4] => { results := [.lit (.bool false)], args := [d1, d2, d3, d4] }
  | _ => none }
def FnAnsweredByTiersNestWrongFalsely : Prop := fnAnsweredByTiersNestRow.holds Try.pinned (OpenSpec.ofChange fnAnsweredByTiersNestWrong)

end Rows
end Go.Proofs.Qxb6608839a
