/-
  THE WALK OF FnCheckBatchWorkersFromOneToMax.
-/
import Derived.Test.Qxb6608755aFmtZzW
namespace Go.Proofs.Qxb6608755aFmt
open Go Go.RowKit Go.Extern.Stop Go.Stop Go.Extern

set_option maxHeartbeats 400000 in
theorem zzBytesA (n : Int) (t : ByteArray) (w : World) (ht : t.size ≤ 9223372036854775807) :
    Calls Tryf.prog 5 #[.int .i64 n, .string t] w fun e w' => (∃ b, e = .returned (.bool b)) ∧ w = w' := by
  go_enter Tryf.func5, Tryf.ntmps5
  go_wp2
  all_goals go_ret
  all_goals exact ⟨⟨_, rfl⟩, rfl⟩

theorem below_tape {F : Interp} {N : Nat} {w w' : World} (hF : F.answers w.tape) (hb : Below N w w') : F.answers w'.tape := by rw [hb.tape]; exact hF

set_option maxRecDepth 100000 in
set_option maxHeartbeats 1000000 in
theorem lawOne (F : Interp) (n : Int) (t : ByteArray) (a : Addr) (s : ByteArray) (w : World) (hF : F.answers w.tape) (hS : Sent w a s) (ht : t.size ≤ 9223372036854775807) :
    Calls Tryf.prog 3 #[.int .i64 n, .string t] w fun e w' => e = .returned (.bool true) ∧ Below w.heap.size w w' := by
  have HF : Hid (F.answers w.tape) := hF
  clear hF
  by_cases hl : 65536 < t.size
  · go_enter Tryf.func3, Tryf.ntmps3
    go_wp2_with fail
    refine (zzBytesA n t w ht).mono ?_
    rintro e w1 ⟨⟨b, rfl⟩, rfl⟩
    cases b
    all_goals go_wp2
    all_goals go_ret
    all_goals exact ⟨rfl, Below.refl _ _⟩
  by_cases h1 : n < 1
  · go_enter Tryf.func3, Tryf.ntmps3
    go_wp2_with fail
    refine (zzBytesA n t w ht).mono ?_
    rintro e w1 ⟨⟨b, rfl⟩, rfl⟩
    cases b
    · go_wp2
      go_ret
      exact ⟨rfl, Below.refl _ _⟩
    go_wp2_with fail
    refine (zzMax_out F n a s w HF.out hS (.inl h1)).mono ?_
    rintro e w1 ⟨rfl, hb1⟩
    have hS1 := hS.below hb1 (Nat.le_refl _)
    have hs1 := hb1.size
    go_wp2_with fail
    refine (zzText F t a s w1 (below_tape HF.out hb1) hS1).mono ?_
    rintro e w2 ⟨rfl, hb2⟩
    have hS2 := hS1.below hb2 (Nat.le_refl _)
    have hs2 := hb2.size
    go_wp2_with fail
    refine (zzNone a s w2 hS2).mono ?_
    rintro e w3 ⟨rfl, hb3⟩
    have hbel : Below w.heap.size w w3 := hb1.trans ((hb2.mono hs1).trans (hb3.mono (by omega)))
    clear hb1 hb2 hb3 hS1 hS2
    go_wp2
    go_ret
    exact ⟨rfl, hbel⟩
  by_cases h2 : 64 < n
  · go_enter Tryf.func3, Tryf.ntmps3
    go_wp2_with fail
    refine (zzBytesA n t w ht).mono ?_
    rintro e w1 ⟨⟨b, rfl⟩, rfl⟩
    cases b
    · go_wp2
      go_ret
      exact ⟨rfl, Below.refl _ _⟩
    go_wp2_with fail
    refine (zzMax_out F n a s w HF.out hS (.inr h2)).mono ?_
    rintro e w1 ⟨rfl, hb1⟩
    have hS1 := hS.below hb1 (Nat.le_refl _)
    have hs1 := hb1.size
    go_wp2_with fail
    refine (zzText F t a s w1 (below_tape HF.out hb1) hS1).mono ?_
    rintro e w2 ⟨rfl, hb2⟩
    have hS2 := hS1.below hb2 (Nat.le_refl _)
    have hs2 := hb2.size
    go_wp2_with fail
    refine (zzNone a s w2 hS2).mono ?_
    rintro e w3 ⟨rfl, hb3⟩
    have hbel : Below w.heap.size w w3 := hb1.trans ((hb2.mono hs1).trans (hb3.mono (by omega)))
    clear hb1 hb2 hb3 hS1 hS2
    go_wp2
    go_ret
    exact ⟨rfl, hbel⟩
  · have d1 : decide (n < 1) = false := decide_eq_false h1
    have d2 : decide (64 < n) = false := decide_eq_false h2
    go_enter Tryf.func3, Tryf.ntmps3
    go_wp2_with fail
    refine (zzBytesA n t w ht).mono ?_
    rintro e w1 ⟨⟨b, rfl⟩, rfl⟩
    cases b
    · go_wp2
      go_ret
      exact ⟨rfl, Below.refl _ _⟩
    go_wp2_with fail
    refine (zzMax_in n a s w hS (by omega) (by omega)).mono ?_
    rintro e w1 ⟨rfl, hb1⟩
    have hS1 := hS.below hb1 (Nat.le_refl _)
    have hs1 := hb1.size
    go_wp2_with fail
    refine (zzText F t a s w1 (below_tape HF.out hb1) hS1).mono ?_
    rintro e w2 ⟨rfl, hb2⟩
    have hS2 := hS1.below hb2 (Nat.le_refl _)
    have hs2 := hb2.size
    go_wp2_with fail
    refine (zzNone a s w2 hS2).mono ?_
    rintro e w3 ⟨rfl, hb3⟩
    have hbel : Below w.heap.size w w3 := hb1.trans ((hb2.mono hs1).trans (hb3.mono (by omega)))
    clear hb1 hb2 hb3 hS1 hS2
    go_wp2
    go_ret
    exact ⟨rfl, hbel⟩

end Go.Proofs.Qxb6608755aFmt
