/-
  THE WALKS OF toContact, answeredBy, ZZansweredBy.
-/
import Derived.Test.Qxb6608839aMakeW
import Derived.Deep.MidRow
namespace Go.Proofs.Qxb6608839a
open Go Go.RowKit

set_option maxRecDepth 100000 in
set_option maxHeartbeats 400000 in
theorem toContact (R T : Array Value) (u k : Bool) (hq : Req R T u k) (w : World) :
    Calls Try.prog 10 #[.agg R] w fun e w' => e = .returned (.bool (u && k)) ∧ Below w.heap.size w w' := by
  obtain ⟨p, hp, hk⟩ := hq.walk
  have hb : Below w.heap.size w (w.alloc (.cells R 37)) := (Below.refl _ _).alloc (Nat.le_refl _) _
  have c52 : (w.alloc (.cells R 37)).cell? ⟨w.heap.size, 52, none⟩ = some (.bool u) := (cell_of_row _ w.heap.size 52 R 37 (0, 0) (heap_alloc_new w _)).trans hq.unnamed
  have c23 : (w.alloc (.cells R 37)).cell? ⟨w.heap.size, 23, none⟩ = some (.pointer p) := (cell_of_row _ w.heap.size 23 R 37 (0, 0) (heap_alloc_new w _)).trans hp
  clear hq hp
  cases u
  · go_enter Try.func10, Try.ntmps10
    go_wp2
    go_ret
    exact ⟨rfl, hb⟩
  · cases p with
    | none =>
      subst hk
      go_enter Try.func10, Try.ntmps10
      go_wp2
      go_ret
      exact ⟨rfl, hb⟩
    | some p =>
      subst hk
      go_enter Try.func10, Try.ntmps10
      go_wp2
      go_ret
      exact ⟨rfl, hb⟩

end Go.Proofs.Qxb6608839a
