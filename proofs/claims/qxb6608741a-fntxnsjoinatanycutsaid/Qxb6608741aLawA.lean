/-
  THE LAW's WALK, ITS SHORT WAYS: a size beyond a bound: true at once.
-/
import Derived.Test.Qxb6608741aToW
import Derived.Deep.RegionWith
namespace Go.Proofs.Qxb6608741a
open Go Go.RowKit

set_option maxRecDepth 100000 in
set_option maxHeartbeats 1000000 in
theorem zzBytes (ao bo co : Option Addr) (n c m d k e : Nat) (w : World) (hn : n ≤ 9223372036854775807) (hm : m ≤ 9223372036854775807) (hk : k ≤ 9223372036854775807) :
    Calls Try.prog 8 #[.slice ao n c, .slice bo m d, .slice co k e] w fun e w' => (∃ b, e = .returned (.bool b)) ∧ w = w' := by
  go_enter Try.func8, Try.ntmps8
  go_wp2
  all_goals go_ret
  all_goals exact ⟨⟨_, rfl⟩, rfl⟩

set_option maxRecDepth 100000 in
set_option maxHeartbeats 1000000 in
theorem law_big (ao bo co : Option Addr) (n c m d k e : Nat) (w : World) (hn : n ≤ 9223372036854775807) (hm : m ≤ 9223372036854775807) (hk : k ≤ 9223372036854775807) (h : 262144 < n ∨ 16384 < m ∨ 16384 < k) :
    Calls Try.prog 3 #[.slice ao n c, .slice bo m d, .slice co k e] w fun e w' => e = .returned (.bool true) ∧ w = w' := by
  by_cases h1 : 262144 < n
  · go_enter Try.func3, Try.ntmps3
    go_wp2_with fail
    refine (zzBytes _ _ _ _ _ _ _ _ _ _ hn hm hk).mono ?_
    rintro e w1 ⟨⟨b, rfl⟩, rfl⟩
    cases b
    all_goals go_wp2
    all_goals go_ret
    all_goals exact ⟨rfl, rfl⟩
  by_cases h2 : 16384 < m
  · go_enter Try.func3, Try.ntmps3
    go_wp2_with fail
    refine (zzBytes _ _ _ _ _ _ _ _ _ _ hn hm hk).mono ?_
    rintro e w1 ⟨⟨b, rfl⟩, rfl⟩
    cases b
    all_goals go_wp2
    all_goals go_ret
    all_goals exact ⟨rfl, rfl⟩
  · have h3 : 16384 < k := by omega
    go_enter Try.func3, Try.ntmps3
    go_wp2_with fail
    refine (zzBytes _ _ _ _ _ _ _ _ _ _ hn hm hk).mono ?_
    rintro e w1 ⟨⟨b, rfl⟩, rfl⟩
    cases b
    all_goals go_wp2
    all_goals go_ret
    all_goals exact ⟨rfl, rfl⟩

end Go.Proofs.Qxb6608741a
