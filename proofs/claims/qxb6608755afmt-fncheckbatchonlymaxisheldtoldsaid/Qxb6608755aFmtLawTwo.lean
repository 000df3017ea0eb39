/-
  THE WALK OF FnCheckBatchOnlyMaxIsHeld.
-/
import Derived.Test.Qxb6608755aFmtAndW
namespace Go.Proofs.Qxb6608755aFmt
open Go Go.RowKit Go.Extern.Stop Go.Stop Go.Extern

set_option maxHeartbeats 400000 in
theorem zzBytesB (n : Int) (t : ByteArray) (v : Int) (w : World) (ht : t.size ≤ 9223372036854775807) :
    Calls Tryf.prog 9 #[.int .i64 n, .string t, .int .i64 v] w fun e w' => (∃ b, e = .returned (.bool b)) ∧ w = w' := by
  go_enter Tryf.func9, Tryf.ntmps9
  go_wp2
  all_goals go_ret
  all_goals exact ⟨⟨_, rfl⟩, rfl⟩

theorem below_tape2 {F : Interp} {N : Nat} {w w' : World} (hF : F.answers w.tape) (hb : Below N w w') : F.answers w'.tape := by rw [hb.tape]; exact hF

theorem maxB_list : maxB.toList = [109, 97, 120] := ByteArray.toList_eq maxB

theorem not_max {key : ByteArray} (h : (key.toList == [109, 97, 120]) = false) : (maxB == key) = false ∧ (key == maxB) = false := by
  have h2 : (key == maxB) = false := by rw [beq_toListBytes, maxB_list]; exact h
  have h1 : (maxB == key) = false := by
    rw [beq_toListBytes, maxB_list]
    rw [Bool.eq_false_iff] at h ⊢
    intro e
    exact h (by rw [beq_iff_eq] at e ⊢; exact e.symm)
  exact ⟨h1, h2⟩

set_option maxRecDepth 100000 in
set_option maxHeartbeats 1000000 in
theorem lawTwo (F : Interp) (n : Int) (key : ByteArray) (v : Int) (a : Addr) (s : ByteArray) (w : World) (hF : F.answers w.tape) (hS : Sent w a s) (ht : key.size ≤ 9223372036854775807) :
    Calls Tryf.prog 4 #[.int .i64 n, .string key, .int .i64 v] w fun e w' => e = .returned (.bool true) ∧ Below w.heap.size w w' := by
  have HF : Hid (F.answers w.tape) := hF
  clear hF
  by_cases hl : 65536 < key.size
  · go_enter Tryf.func4, Tryf.ntmps4
    go_wp2_with fail
    refine (zzBytesB n key v w ht).mono ?_
    rintro e w1 ⟨⟨b, rfl⟩, rfl⟩
    cases b
    all_goals go_wp2
    all_goals go_ret
    all_goals exact ⟨rfl, Below.refl _ _⟩
  cases hk : (key.toList == [109, 97, 120])
  case true =>
    go_enter Tryf.func4, Tryf.ntmps4
    go_wp2_with fail
    refine (zzBytesB n key v w ht).mono ?_
    rintro e w1 ⟨⟨b, rfl⟩, rfl⟩
    cases b
    all_goals go_wp2
    all_goals go_ret
    all_goals exact ⟨rfl, Below.refl _ _⟩
  have HA : Hid ((maxB == key) = false) := (not_max hk).1
  have HB : Hid ((key == maxB) = false) := (not_max hk).2
  by_cases h1 : n < 1
  · go_enter Tryf.func4, Tryf.ntmps4
    go_wp2_with fail
    refine (zzBytesB n key v w ht).mono ?_
    rintro e w1 ⟨⟨b, rfl⟩, rfl⟩
    cases b
    · go_wp2
      go_ret
      exact ⟨rfl, Below.refl _ _⟩
    go_wp2_with fail
    refine (zzAnd_out F n key v a s w HF.out hS HA.out HB.out (.inl h1)).mono ?_
    rintro e w1 ⟨rfl, hb1⟩
    have hS1 := hS.below hb1 (Nat.le_refl _)
    have hs1 := hb1.size
    go_wp2_with fail
    refine (zzMax_out F n a s w1 (below_tape2 HF.out hb1) hS1 (.inl h1)).mono ?_
    rintro e w2 ⟨rfl, hb2⟩
    have hS2 := hS1.below hb2 (Nat.le_refl _)
    have hs2 := hb2.size
    go_wp2_with fail
    refine (zzOther key v a s w2 hS2 HA.out).mono ?_
    rintro e w3 ⟨rfl, hb3⟩
    have hbel : Below w.heap.size w w3 := hb1.trans ((hb2.mono hs1).trans (hb3.mono (by omega)))
    clear hb1 hb2 hb3 hS1 hS2
    go_wp2
    go_ret
    exact ⟨rfl, hbel⟩
  by_cases h2 : 64 < n
  · go_enter Tryf.func4, Tryf.ntmps4
    go_wp2_with fail
    refine (zzBytesB n key v w ht).mono ?_
    rintro e w1 ⟨⟨b, rfl⟩, rfl⟩
    cases b
    · go_wp2
      go_ret
      exact ⟨rfl, Below.refl _ _⟩
    go_wp2_with fail
    refine (zzAnd_out F n key v a s w HF.out hS HA.out HB.out (.inr h2)).mono ?_
    rintro e w1 ⟨rfl, hb1⟩
    have hS1 := hS.below hb1 (Nat.le_refl _)
    have hs1 := hb1.size
    go_wp2_with fail
    refine (zzMax_out F n a s w1 (below_tape2 HF.out hb1) hS1 (.inr h2)).mono ?_
    rintro e w2 ⟨rfl, hb2⟩
    have hS2 := hS1.below hb2 (Nat.le_refl _)
    have hs2 := hb2.size
    go_wp2_with fail
    refine (zzOther key v a s w2 hS2 HA.out).mono ?_
    rintro e w3 ⟨rfl, hb3⟩
    have hbel : Below w.heap.size w w3 := hb1.trans ((hb2.mono hs1).trans (hb3.mono (by omega)))
    clear hb1 hb2 hb3 hS1 hS2
    go_wp2
    go_ret
    exact ⟨rfl, hbel⟩
  · have d1 : decide (n < 1) = false := decide_eq_false h1
    have d2 : decide (64 < n) = false := decide_eq_false h2
    go_enter Tryf.func4, Tryf.ntmps4
    go_wp2_with fail
    refine (zzBytesB n key v w ht).mono ?_
    rintro e w1 ⟨⟨b, rfl⟩, rfl⟩
    cases b
    · go_wp2
      go_ret
      exact ⟨rfl, Below.refl _ _⟩
    go_wp2_with fail
    refine (zzAnd_in n key v a s w hS HA.out HB.out (by omega) (by omega)).mono ?_
    rintro e w1 ⟨rfl, hb1⟩
    have hS1 := hS.below hb1 (Nat.le_refl _)
    have hs1 := hb1.size
    go_wp2_with fail
    refine (zzMax_in n a s w1 hS1 (by omega) (by omega)).mono ?_
    rintro e w2 ⟨rfl, hb2⟩
    have hS2 := hS1.below hb2 (Nat.le_refl _)
    have hs2 := hb2.size
    go_wp2_with fail
    refine (zzOther key v a s w2 hS2 HA.out).mono ?_
    rintro e w3 ⟨rfl, hb3⟩
    have hbel : Below w.heap.size w w3 := hb1.trans ((hb2.mono hs1).trans (hb3.mono (by omega)))
    clear hb1 hb2 hb3 hS1 hS2
    go_wp2
    go_ret
    exact ⟨rfl, hbel⟩

end Go.Proofs.Qxb6608755aFmt
