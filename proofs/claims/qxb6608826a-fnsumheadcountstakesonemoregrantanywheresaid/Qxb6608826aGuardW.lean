/-
  THE WALKS OF THE GUARDS (a bool, whichever; nothing written) AND OF toPlan.
-/
import Derived.Test.Qxb6608826aSumW
namespace Go.Proofs.Qxb6608826a
open Go Go.RowKit

/-- A bool comes back. -/
def IsB (e : Ending) : Prop := ∃ b, e = .returned (.bool b)

set_option maxHeartbeats 1000000 in
theorem zzBytesA (ao : Option Addr) (n c : Nat) (i : Int) (l : List Gr) (w : World) (hg : Gs w ao n l) :
    Calls Try.prog 5 #[.slice ao n c, .int .i64 i] w fun e w' => IsB e ∧ w = w' := by
  have HN : Hid (l.length = n) := hg.len
  by_cases hbig : 1048576 < n
  · go_enter Try.func5, Try.ntmps5
    go_wp2
    go_ret
    exact ⟨⟨_, rfl⟩, rfl⟩
  go_enter Try.func5, Try.ntmps5
  go_wp2
  go_loop [5, 6] (fun vz vi => ∃ (k : Nat) (z : Int), vz = .int .i64 z ∧ vi = .int .i64 k ∧ k ≤ n) (fun _ vi => n - (intOf vi).toNat)
  case atStart => exact ⟨0, _, rfl, rfl, Nat.zero_le _⟩
  case round =>
    obtain ⟨k, z, rfl, rfl, hk⟩ := hrel
    by_cases hlt : k < n
    · have hkl : k < l.length := by rw [HN.out]; exact hlt
      obtain ⟨bb, off, e, c0, c1, c2, c3⟩ := hg.cell k hkl
      generalize l[k] = g at c0 c1 c2 c3
      obtain ⟨gh, gr, gc, gq⟩ := g
      dsimp only at c0 c1 c2 c3
      subst e
      go_wp2
      · go_ret; exact ⟨⟨_, rfl⟩, rfl⟩
      · go_ret; exact ⟨⟨_, rfl⟩, rfl⟩
      · go_ret; exact ⟨⟨_, rfl⟩, rfl⟩
      · go_ret; exact ⟨⟨_, rfl⟩, rfl⟩
      · go_round
        case rel => exact ⟨k + 1, _, rfl, by go_num, by omega⟩
        case measure => simp [intOf]; omega
    · go_wp2
      go_ret
      exact ⟨⟨_, rfl⟩, rfl⟩

set_option maxHeartbeats 1000000 in
theorem tooBig (ao : Option Addr) (n c : Nat) (x : Int) (l : List Gr) (w : World) (hg : Gs w ao n l) (hn : n ≤ 1048576) :
    Calls Try.prog 6 #[.slice ao n c, .int .i64 x] w fun e w' => IsB e ∧ ∃ q, w' = w.drewN q := by
  have HN : Hid (l.length = n) := hg.len
  by_cases hbig : 1048576 < x
  · go_enter Try.func6, Try.ntmps6
    go_wp2
    go_ret
    exact ⟨⟨_, rfl⟩, 0, rfl⟩
  go_enter Try.func6, Try.ntmps6
  go_wp2
  go_loopw [5, 6] (fun vz vi wr => ∃ (k q : Nat) (z : Int), vz = .int .i64 z ∧ vi = .int .i64 k ∧ k ≤ n ∧ wr = w.drewN q) (fun _ vi _ => n - (intOf vi).toNat)
  case atStart => exact ⟨0, 0, _, rfl, rfl, Nat.zero_le _, rfl⟩
  case round =>
    obtain ⟨k, q, z, rfl, rfl, hk, rfl⟩ := hrel
    by_cases hlt : k < n
    · have hkl : k < l.length := by rw [HN.out]; exact hlt
      obtain ⟨bb, off, e, c0, c1, c2, c3⟩ := hg.cell k hkl
      generalize l[k] = g at c0 c1 c2 c3
      obtain ⟨gh, gr, gc, gq⟩ := g
      dsimp only at c0 c1 c2 c3
      have i1 : (k : Int) < (n : Int) := by omega
      subst e
      go_wp2
      go_quiet (fail)
      go_wp2
      · go_ret; exact ⟨⟨_, rfl⟩, _, rfl⟩
      · go_roundw
        case rel => exact ⟨k + 1, _, _, rfl, by go_num, by omega, rfl⟩
        case measure => simp [intOf]; omega
    · go_wp2
      go_ret
      exact ⟨⟨_, rfl⟩, q, rfl⟩

set_option maxHeartbeats 1000000 in
theorem zzBytesB (ao : Option Addr) (n c : Nat) (x : Int) (h r : ByteArray) (p q : Int) (l : List Gr) (w : World) (hg : Gs w ao n l) (hA : ∀ a : Addr, ao = some a → 0 < n → a.block < w.heap.size) :
    Calls Try.prog 10 #[.slice ao n c, .agg #[.string h, .string r, .int .i64 p, .int .i64 q], .int .i64 x] w fun e w' => IsB e ∧ Below w.heap.size w w' := by
  have HN : Hid (l.length = n) := hg.len
  have hb : Below w.heap.size w (w.alloc (.cells #[.string h, .string r, .int .i64 p, .int .i64 q] 33)) := (Below.refl _ _).alloc (Nat.le_refl _) _
  have hg1 := hg.below hb hA
  clear hg
  by_cases hbig : 1048576 < n
  · go_enter Try.func10, Try.ntmps10
    go_wp2
    go_ret
    exact ⟨⟨_, rfl⟩, hb⟩
  go_enter Try.func10, Try.ntmps10
  go_wp2
  go_loop [7, 8] (fun vz vi => ∃ (k : Nat) (z : Int), vz = .int .i64 z ∧ vi = .int .i64 k ∧ k ≤ n) (fun _ vi => n - (intOf vi).toNat)
  case atStart => exact ⟨0, _, rfl, rfl, Nat.zero_le _⟩
  case round =>
    obtain ⟨k, z, rfl, rfl, hk⟩ := hrel
    by_cases hlt : k < n
    · have hkl : k < l.length := by rw [HN.out]; exact hlt
      obtain ⟨bb, off, e, c0, c1, c2, c3⟩ := hg1.cell k hkl
      generalize l[k] = g at c0 c1 c2 c3
      obtain ⟨gh, gr, gc, gq⟩ := g
      dsimp only at c0 c1 c2 c3
      subst e
      go_wp2
      · go_ret; exact ⟨⟨_, rfl⟩, hb⟩
      · go_ret; exact ⟨⟨_, rfl⟩, hb⟩
      · go_ret; exact ⟨⟨_, rfl⟩, hb⟩
      · go_ret; exact ⟨⟨_, rfl⟩, hb⟩
      · go_round
        case rel => exact ⟨k + 1, _, rfl, by go_num, by omega⟩
        case measure => simp [intOf]; omega
    · go_wp2
      all_goals go_ret
      all_goals exact ⟨⟨_, rfl⟩, hb⟩

end Go.Proofs.Qxb6608826a
