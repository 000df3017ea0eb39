/-
  THE CARD OF FnCheckBatchOnlyMaxIsHeld, PROVED.
-/
import Derived.Test.Qxb6608755aFmtTie
import Derived.Test.Qxb6608755aFmtCards
import Derived.Test.Qxb6608755aFmtLawTwo
import Derived.Test.Qxb6608755aFmtLaid
namespace Go.Proofs.Qxb6608755aFmt
open Go Go.ChangeShapes Go.WideShapes Go.ChangeAt Go.RowKit Go.Kit
open Go.ChangeMaps (open_string shut_string)
open Go.Extern.Stop Go.Stop Go.Extern

set_option maxRecDepth 100000 in
set_option maxHeartbeats 1000000 in
theorem two_lifted (os : Os) (started : os.Started) (H : Type) (enc : TypeId × Value → H) :
    ReturnsInTold none {} Tryf.checked os 4 .any Input.okWide ((OpenSpec.ofChange Rows.fnCheckBatchOnlyMaxIsHeldSpec).preRow enc Tryf.prog Tryf.f4 Rows.fnCheckBatchOnlyMaxIsHeldRow.domain false Rows.fnCheckBatchOnlyMaxIsHeldRow.laid)
      (fun F => ((OpenSpec.ofChange Rows.fnCheckBatchOnlyMaxIsHeldSpec).at F).post enc Tryf.prog Tryf.f4 false true false false) (aloneAtReturn Tryf.prog) nothingAlways := by
  refine returnsInTold_of_row (C := Tryf.checked) (s := OpenSpec.ofChange Rows.fnCheckBatchOnlyMaxIsHeldSpec) (by kernel_rfl) ownK started (by kernel_rfl) Tryf.func4
    (OpenSpec.witness_stopped_at (enc := enc) (C := Tryf.checked) false
      ({ World.holding Tryf.prog os ⟨#[.cells #[.string ⟨#[116, 104, 101, 32, 109, 111, 115, 116, 32, 119, 111, 114, 107, 101, 114, 115, 32, 116, 104, 97, 116, 32, 114, 117, 110, 32, 97, 116, 32, 111, 110, 99, 101, 32, 105, 115, 32, 111, 117, 116, 32, 111, 102, 32, 114, 97, 110, 103, 101]⟩] 62], #[], []⟩ with
        heap := (World.holding Tryf.prog os ⟨#[.cells #[.string ⟨#[116, 104, 101, 32, 109, 111, 115, 116, 32, 119, 111, 114, 107, 101, 114, 115, 32, 116, 104, 97, 116, 32, 114, 117, 110, 32, 97, 116, 32, 111, 110, 99, 101, 32, 105, 115, 32, 111, 117, 116, 32, 111, 102, 32, 114, 97, 110, 103, 101]⟩] 62], #[], []⟩).heap.modify 0 fun
          | .cells _ t frozen => .cells #[.iface 60 (.pointer (some ⟨(World.holding Tryf.prog default ⟨#[], #[], []⟩).heap.size, 0, none⟩))] t frozen
          | o => o } : World)
      #[.int .i64 0, .string ⟨#[]⟩, .int .i64 0] rfl (by kernel_rfl) (by kernel_rfl) (by kernel_rfl)
      (OpenSpec.preRow_of_B rfl 8 (by kernel_rfl) (by kernel_rfl) (laidMet_of_run (ps := [.cell 0 0, .cell (World.holding Tryf.prog default ⟨#[], #[], []⟩).heap.size 0]) 8 (by kernel_rfl) (by kernel_rfl) (by kernel_rfl)))) ?_
  intro F W base args ds gs before _ hF hval0 hW _ _ _ hL _
  have hval : ∀ (j : Nat) t v, Tryf.f4.params[j]? = some t → args[j]? = some v → Value.okWide Tryf.prog W .any base t v := hval0
  have hW' := hW
  obtain ⟨p, q, hA0, hV0, rfl, hfz, hnd⟩ := hW
  have hA : DataW.TrodAll enc Tryf.prog W 0 (fun _ => true) true Tryf.f4.params.toList args.toList ds p := hA0
  have hV : DataW.TrodVars enc Tryf.prog W (fun _ => true) [vName] gs q := hV0
  rw [Tryf.params4] at hA hval
  obtain ⟨v0, v1, v2, d0, d1, d2, p0, p1, p2, rfl, rfl, rfl, h0, h1, h2⟩ := trodAll_three hA
  obtain ⟨n, rfl, rfl, rfl, wn⟩ := open_int Tryf.underlying3 (hval 0 3 v0 rfl rfl) h0
  obtain ⟨t, rfl, rfl, rfl, wt⟩ := open_string Tryf.underlying9 (hval 1 9 v1 rfl rfl) h1
  obtain ⟨m, rfl, rfl, rfl, wm⟩ := open_int Tryf.underlying3 (hval 2 3 v2 rfl rfl) h2
  obtain ⟨a, s, hv, hS⟩ := sent_of_laid hL
  obtain ⟨rfl, rfl⟩ := hV.unique (vars_read1 enc gW gWType Tryf.underlying31 hv trivial _)
  clear hA0 hV0 hval0
  have hg0 : 0 < W.heap.size := World.block_lt_of_cell? W _ hS.var
  refine (lawTwo F.told n t m a s W hF hS (by unfold maxLen at wt; exact wt)).mono fun e W' ⟨he, bel⟩ => ?_
  subst he
  have e1 : ((OpenSpec.ofChange Rows.fnCheckBatchOnlyMaxIsHeldSpec).at F.told).fn H ([.lit (.int .i64 n), .lit (.string t.data.toList), .lit (.int .i64 m)] ++ [tok enc (.iface 60 (.pointer (some a)))]) = { results := [.lit (.bool true)], args := [.lit (.int .i64 n), .lit (.string t.data.toList), .lit (.int .i64 m)], vars := [tok enc (.iface 60 (.pointer (some a)))] } := rfl
  refine ⟨_, rfl, _, _, _, [], [], [.cell 0 0], hW', ?_, ?_, ?_, bel.frame _, fun h => by cases h⟩
  · rw [e1]; exact trodAll_mk1 (shut_bool Tryf.underlying4 true)
  · rw [e1]; exact trodAll_mk3 (shut_int Tryf.underlying3 wn) (shut_string Tryf.underlying9 wt) (shut_int Tryf.underlying3 wm)
  · rw [e1]; exact vars_read1 enc gW gWType Tryf.underlying31 (var?_below bel gW hg0 hv) trivial _

theorem fnCheckBatchOnlyMaxIsHeld_told : Rows.FnCheckBatchOnlyMaxIsHeldToldSaid :=
  Claim7.holds_of_told_tied_any_at .later 4 Tryf.f4 "fmt.errorf" [] [] _ _ _ _ _ (by kernel_rfl) rfl rfl rfl laidOutP (by kernel_rfl) rfl ⟨rfl, rfl, rfl, rfl, rfl, rfl, rfl⟩ rfl rfl (by kernel_rfl) (by kernel_rfl) Tryf.func4 (by kernel_rfl)
    (of_decide_eq_true (by kernel_rfl)) (of_decide_eq_true (by kernel_rfl)) stopsP.symm rfl stopKnobsP.symm (by kernel_rfl)
    (by kernel_rfl) (by kernel_rfl) (by kernel_rfl) (by kernel_rfl) (by kernel_rfl) (by kernel_rfl) (by kernel_rfl) (by kernel_rfl) (by kernel_rfl) rfl (by kernel_rfl) rfl rfl
    rfl rfl
    rfl (by kernel_rfl) (by kernel_rfl) (by kernel_rfl) (by decide) (by kernel_rfl) fnCheckBatchOnlyMaxIsHeld_row_tie
    (OpenClaim.moreEntering_of (by kernel_rfl) (by kernel_rfl) (by kernel_rfl) (by kernel_rfl) (by kernel_rfl) (by kernel_rfl) (by kernel_rfl) (by kernel_rfl) (by kernel_rfl) (by kernel_rfl))
    ⟨_, WideRow.started_initial, quietP _⟩
    (fun os started _ H enc _ => two_lifted os started H enc)

end Go.Proofs.Qxb6608755aFmt
