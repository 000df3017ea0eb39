/-
  THE WALK OF FnSumHeadcountsAddsUpOverAnyCut AT THE NIL SLICE.
-/
import Derived.Test.Qxb6608826aLawA
namespace Go.Proofs.Qxb6608826a
open Go Go.RowKit

theorem Gs.nil (w : World) (ao : Option Addr) : Gs w ao 0 [] := ⟨rfl, fun j h => absurd h (by simp)⟩
theorem Ok.nil : Ok [] := fun g hg => absurd hg (by simp)

/-- SumHeadcounts of no grants. -/
theorem sum_none (ao : Option Addr) (c : Nat) (w : World) : Calls Try.prog 8 #[.slice ao 0 c] w fun e w' => e = .returned (.tuple #[.int .i64 0, .bool true]) ∧ Below w.heap.size w w' :=
  sumHeadcounts ao 0 c [] w (Gs.nil w ao) Ok.nil (fun _ _ h => absurd h (by omega)) (by omega)

set_option maxRecDepth 100000 in
set_option maxHeartbeats 1000000 in
theorem lawA_nil (c : Nat) (w : World) :
    Calls Try.prog 3 #[.slice none 0 c, .int .i64 0] w fun e w' => e = .returned (.bool true) ∧ Below w.heap.size w w' := by
  obtain ⟨i0, hi, hz0, hz1, hz2⟩ := info_parts Try.info31
  go_enter Try.func3, Try.ntmps3
  go_wp2_with fail
  refine (zzBytesA none 0 c 0 [] w (Gs.nil _ _)).mono ?_
  rintro e w1 ⟨⟨b, rfl⟩, rfl⟩
  cases b
  · go_wp2
    go_ret
    exact ⟨rfl, Below.refl _ _⟩
  go_wp2_with fail
  refine (tooBig none 0 c 0 [] w (Gs.nil _ _) (by omega)).mono ?_
  rintro e w1 ⟨⟨b, rfl⟩, q, hq⟩
  have hbel1 : Below w.heap.size w w1 := by rw [hq]; exact below_drewN' w q
  clear hq
  cases b
  case true =>
    go_wp2
    go_ret
    exact ⟨rfl, hbel1⟩
  have hs1 := hbel1.size
  go_wp2_with fail
  refine (toPlan_nil 0 c w1).mono ?_
  rintro e w2 ⟨rfl, rfl⟩
  go_wp2_with fail
  refine (sum_none none 0 w1).mono ?_
  rintro e w3 ⟨rfl, hb3⟩
  have hs3 := hb3.size
  have hbel3 := hbel1.trans (hb3.mono hs1)
  clear hb3 hbel1
  go_wp2_with fail
  refine (sum_none none 0 w3).mono ?_
  rintro e w4 ⟨rfl, hb4⟩
  have hs4 := hb4.size
  have hbel4 := hbel3.trans (hb4.mono (by omega))
  clear hb4 hbel3
  go_wp2_with fail
  refine (sum_none none 0 w4).mono ?_
  rintro e w5 ⟨rfl, hb5⟩
  have hs5 := hb5.size
  have hbel5 := hbel4.trans (hb5.mono (by omega))
  clear hb5 hbel4
  go_wp2_with (at_make; refine wpList_make_own _ rfl _ _ 24 rfl w.heap.size 31 i0 (.agg #[.string ⟨#[]⟩, .string ⟨#[]⟩, .int .i64 0, .int .i64 0]) 4 Try.underlying24 hi hz0 hz1 _ _ _ 0 rfl rfl (by omega) (by rw [hz2]; omega) (by unfold maxLen; omega) (by omega) ?_)
  intro w6 hR6 hgr6
  have hbel6 : Below w.heap.size w w6 := hbel5.grown hgr6 (by omega) (fun j hj => by cases hj)
  have hs6 := hgr6.size
  clear hgr6 hbel5
  go_wp2_with (at_builtin; refine wpList_append_fits_any _ rfl (.tmp 61) (.tmp 62) 24 rfl w.heap.size 31 i0 4 Try.underlying24 hi hz1 _ 0 0 [] rfl hR6 none 0 0 [] rfl rfl (fun _ => ⟨rfl, rfl⟩) (fun ad h => by cases h) (fun u hu => by cases hu) (by omega) ?_)
  intro w7 hR7 hgr7
  have hbel7 : Below w.heap.size w w7 := hbel6.grown hgr7 (by omega) (fun j hj => by have := Option.some.inj hj; omega)
  have hs7 := hgr7.size
  clear hgr7 hbel6 hR6
  go_wp2_with (at_builtin; refine wpList_append_fits_any _ rfl (.tmp 64) (.tmp 65) 24 rfl w.heap.size 31 i0 4 Try.underlying24 hi hz1 _ 0 0 [] rfl hR7 none 0 0 [] rfl rfl (fun _ => ⟨rfl, rfl⟩) (fun ad h => by cases h) (fun u hu => by cases hu) (by omega) ?_)
  intro w8 hR8 hgr8
  have hbel8 : Below w.heap.size w w8 := hbel7.grown hgr8 (by omega) (fun j hj => by have := Option.some.inj hj; omega)
  have hs8 := hgr8.size
  clear hgr8 hbel7 hR7 hR8
  go_wp2_with fail
  refine (sum_none _ _ w8).mono ?_
  rintro e w9 ⟨rfl, hb9⟩
  have hbel9 := hbel8.trans (hb9.mono (by omega))
  clear hb9 hbel8
  go_wp2
  go_ret
  exact ⟨rfl, hbel9⟩

theorem lawA (ao : Option Addr) (n c : Nat) (i : Int) (l : List Gr) (w : World) (hg : Gs w ao n l) (hok : Ok l) (hA : ∀ b : Addr, ao = some b → 0 < n → b.block < w.heap.size) :
    Calls Try.prog 3 #[.slice ao n c, .int .i64 i] w fun e w' => e = .returned (.bool true) ∧ Below w.heap.size w w' := by
  by_cases h : 65536 < n ∨ i < 0 ∨ (n : Int) < i
  · exact lawA_out ao n c i l w hg h
  · obtain ⟨k, rfl⟩ := Int.eq_ofNat_of_zero_le (show 0 ≤ i by omega)
    cases ao with
    | some a => exact lawA_some a n c k l w hg hok hA (by omega) (by omega)
    | none =>
      have hl0 : l = [] := by
        match l, hg with
        | [], _ => rfl
        | x :: r, hg => obtain ⟨_, _, e, _⟩ := hg.cell 0 (by simp); cases e
      have hn0 : n = 0 := by have := hg.len; rw [hl0] at this; simpa using this.symm
      subst hn0
      obtain rfl : k = 0 := by omega
      exact lawA_nil c w

end Go.Proofs.Qxb6608826a
