/-
  WHAT THE LISTED VARIABLE GIVES, and closed facts for the two cards.
-/
import Derived.Test.Qxb6608755aFmtZzW
import Derived.ProofKit
import Derived.Stop.JoinedTold
import Derived.Stop.JoinedAt
import Derived.Stop.LaidErr
import Derived.LaidLaws
import Derived.WalkSmall
namespace Go.Proofs.Qxb6608755aFmt
open Go Go.ChangeShapes Go.WideShapes Go.ChangeAt Go.RowKit Go.Kit
open Go.Extern.Stop Go.Stop Go.Extern

theorem ownK : ownKnob Tryf.prog.godebug = none := by kernel_rfl
theorem laidOutP : laidOutB Tryf.pinned.checked.prog = true := by kernel_rfl
theorem stopsP : Tryf.pinned.checked.prog.stops = ["fmt.errorf"] := by kernel_rfl
theorem stopKnobsP : Tryf.pinned.checked.prog.stopKnobs = [] := by kernel_rfl
theorem quietP (os : Os) : Stop.quiet Tryf.pinned.checked.prog os := by
  intro k hk
  rw [stopKnobsP] at hk
  cases hk

/-- The variable's name, as the given rows spell it. -/
def vName : String := Rows.fnCheckBatchWorkersFromOneToMaxSpec.vars.headD ""
theorem gW : Tryf.prog.globalNamed vName = some 0 := by kernel_rfl
theorem gWType : (Tryf.prog.globals[0]?).map (·.type) = some 31 := by kernel_rfl
theorem cells62 : Tryf.prog.cellsOf 62 = 1 := by kernel_rfl
theorem cells9 : Tryf.prog.cellsOf 9 = 1 := by kernel_rfl
theorem row60 (u : TypeId) (h : Tryf.prog.typeName? 3 u = some sentName) : u = 60 :=
  typeName_ptr_named (nm := "errors.errorString") (by kernel_rfl) (by kernel_rfl) (by decide) u (h.trans (by kernel_rfl))

theorem sent_of_laid {W : World} (h : laidMet Tryf.prog Rows.fnCheckBatchWorkersFromOneToMaxRow.laid W) :
    ∃ (a : Addr) (s : ByteArray), W.var? Tryf.prog vName = some #[.iface 60 (.pointer (some a))] ∧ Sent W a s := by
  obtain ⟨a, s, hv, hc, _, _⟩ := laid_sentinel (n := vName) (nm := sentName) h gW gWType Tryf.underlying31 row60 Tryf.underlying60 Tryf.underlying62 rfl rfl Tryf.underlying9 cells62 cells9
  exact ⟨a, s, hv, ⟨by simpa using World.var?_cell gW hv 0, hc⟩⟩

end Go.Proofs.Qxb6608755aFmt
