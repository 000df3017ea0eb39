/-
  THE WORDS OF MEMORY for the seat b6608826a, and the walks of add, SumHeadcounts, toPlanGrant.
-/
import Derived.Test.Qxb6608826aRows
import Derived.Test.Qxb6608826aPlain
import Derived.WalkKit
import Derived.WalkSpells
import Derived.WalkLawsBesides
import Derived.Deep.QuietTactic
import Derived.BigQuiet
namespace Go.Proofs.Qxb6608826a
open Go Go.RowKit

/-- A grant. -/
structure Gr where
  holder : ByteArray
  role : ByteArray
  head : Int
  qty : Int

/-- '.slice ao n c' reads the grants l: four cells each. -/
structure Gs (w : World) (ao : Option Addr) (n : Nat) (l : List Gr) : Prop where
  len : l.length = n
  cell : ∀ j (h : j < l.length), ∃ b off, ao = some ⟨b, off, none⟩ ∧ w.cell? ⟨b, off + j * 4, none⟩ = some (.string (l[j]).holder) ∧ w.cell? ⟨b, off + j * 4 + 1, none⟩ = some (.string (l[j]).role) ∧
    w.cell? ⟨b, off + j * 4 + 1 + 1, none⟩ = some (.int .i64 (l[j]).head) ∧ w.cell? ⟨b, off + j * 4 + 1 + 1 + 1, none⟩ = some (.int .i64 (l[j]).qty)

/-- The numbers are int64's. -/
def Ok (l : List Gr) : Prop := ∀ g ∈ l, -9223372036854775808 ≤ g.head ∧ g.head ≤ 9223372036854775807

def heads (l : List Gr) : List Int := l.map (·.head)

theorem Gs.below {w w' : World} {ao : Option Addr} {n : Nat} {l : List Gr} {N : Nat} (h : Gs w ao n l) (hb : Below N w w') (hA : ∀ a : Addr, ao = some a → 0 < n → a.block < N) : Gs w' ao n l :=
  ⟨h.len, fun j hj => by
    obtain ⟨b, off, e, c0, c1, c2, c3⟩ := h.cell j hj
    have hp := hA ⟨b, off, none⟩ e (by have := h.len; omega)
    exact ⟨b, off, e, (hb.cell (p := ⟨b, off + j * 4, none⟩) hp).trans c0, (hb.cell (p := ⟨b, off + j * 4 + 1, none⟩) hp).trans c1, (hb.cell (p := ⟨b, off + j * 4 + 1 + 1, none⟩) hp).trans c2, (hb.cell (p := ⟨b, off + j * 4 + 1 + 1 + 1, none⟩) hp).trans c3⟩⟩

set_option maxHeartbeats 400000 in
theorem add_ok (a b : Int) (w : World) (ha : 0 ≤ a) (hb : 0 ≤ b) (hs : a + b ≤ 9223372036854775807) :
    Calls Try.prog 12 #[.int .i64 a, .int .i64 b] w fun e w' => e = .returned (.tuple #[.int .i64 (a + b), .bool true]) ∧ w = w' := by
  have h1 : ¬ 9223372036854775807 - b < a := by omega
  go_enter Try.func12, Try.ntmps12
  go_wp2
  go_ret2
  exact ⟨rfl, rfl⟩

set_option maxHeartbeats 400000 in
theorem add_no (a b : Int) (w : World) (ha : 0 ≤ a) (ha' : a ≤ 9223372036854775807) (hb : -9223372036854775808 ≤ b) (hb' : b ≤ 9223372036854775807) (hs : b < 0 ∨ 9223372036854775807 < a + b) :
    Calls Try.prog 12 #[.int .i64 a, .int .i64 b] w fun e w' => e = .returned (.tuple #[.int .i64 0, .bool false]) ∧ w = w' := by
  have h1 : wrap64 (9223372036854775807 - b) < a := by unfold wrap64; omega
  clear hs
  go_enter Try.func12, Try.ntmps12
  go_wp2
  go_ret2
  exact ⟨rfl, rfl⟩

end Go.Proofs.Qxb6608826a
