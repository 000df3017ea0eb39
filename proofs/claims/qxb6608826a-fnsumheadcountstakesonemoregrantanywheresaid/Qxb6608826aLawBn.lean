/-
  THE WALK OF FnSumHeadcountsTakesOneMoreGrantAnywhere AT THE NIL SLICE.
-/
import Derived.Test.Qxb6608826aLawB
namespace Go.Proofs.Qxb6608826a
open Go Go.RowKit

set_option maxRecDepth 100000 in
set_option maxHeartbeats 4000000 in
theorem lawB_nil (c : Nat) (gh gr : ByteArray) (gp gq : Int) (w : World) (hp0 : -9223372036854775808 ≤ gp) (hp1 : gp ≤ 9223372036854775807) :
    Calls Try.prog 4 #[.slice none 0 c, .agg #[.string gh, .string gr, .int .i64 gp, .int .i64 gq], .int .i64 0] w fun e w' => e = .returned (.bool true) ∧ Below w.heap.size w w' := by
  have hb0 : Below w.heap.size w (w.alloc (.cells #[.string gh, .string gr, .int .i64 gp, .int .i64 gq] 33)) := (Below.refl _ _).alloc (Nat.le_refl _) _
  have HF0 := hidE (show Four (w.alloc (.cells #[.string gh, .string gr, .int .i64 gp, .int .i64 gq] 33)) w.heap.size gh gr gp gq from Four.of_row (heap_alloc_new w _))
  have HSZ := hidE (show (w.alloc (.cells #[.string gh, .string gr, .int .i64 gp, .int .i64 gq] 33)).heap.size = w.heap.size + 1 by simp)
  have HZ := hidE (zzBytesB none 0 c 0 gh gr gp gq [] (w.alloc (.cells #[.string gh, .string gr, .int .i64 gp, .int .i64 gq] 33)) (Gs.nil _ _) (fun b hb _ => by cases hb))
  obtain ⟨i0, hi, hz0, hz1, hz2⟩ := info_parts Try.info31
  go_enter Try.func4, Try.ntmps4
  go_wp2_with fail
  refine HZ.out.mono ?_
  rintro e w1 ⟨⟨b, rfl⟩, hb1⟩
  have hbel1 : Below w.heap.size w w1 := hb0.trans (hb1.mono (by rw [HSZ.out]; omega))
  have hF1 : Four w1 w.heap.size gh gr gp gq := HF0.out.below hb1 (by rw [HSZ.out]; omega)
  have hs1 : w.heap.size < w1.heap.size := by have := hb1.size; rw [HSZ.out] at this; omega
  clear hb1 hb0 HZ HF0 HSZ
  cases b
  · go_wp2
    go_ret
    exact ⟨rfl, hbel1⟩
  obtain ⟨f0, f1, f2, f3⟩ := hF1
  go_wp2_with fail
  refine (tooBig none 0 c _ [] w1 (Gs.nil _ _) (by omega)).mono ?_
  rintro e w2 ⟨⟨b, rfl⟩, q, hq⟩
  have hb2 : Below w1.heap.size w1 w2 := by rw [hq]; exact below_drewN' w1 q
  have hs2 := hb2.size
  have hbel2 : Below w.heap.size w w2 := hbel1.trans (hb2.mono (by omega))
  have hF2 := Four.below ⟨f0, f1, f2, f3⟩ hb2 hs1
  clear hq f0 f1 f2 f3 hb2 hbel1
  cases b
  case true =>
    go_wp2
    go_ret
    exact ⟨rfl, hbel2⟩
  go_wp2_with fail
  refine (toPlan_nil 0 c w2).mono ?_
  rintro e w3 ⟨rfl, rfl⟩
  obtain ⟨f0, f1, f2, f3⟩ := hF2
  have hWP : w.heap.size < w2.heap.size := by omega
  clear hs1 hs2
  go_wp2_with fail
  refine (toPlanGrant gh gr gp gq w2).mono ?_
  rintro e w4 ⟨rfl, hb4⟩
  have hs4 := hb4.size
  have hbel4 : Below w.heap.size w w4 := hbel2.trans (hb4.mono (by omega))
  have hF4 := Four.below ⟨f0, f1, f2, f3⟩ hb4 (by omega)
  have hbA : Below w4.heap.size w4 (w4.alloc (.cells #[.string gh, .string gr, .int .i64 gp, .int .i64 gq] 31)) := (Below.refl _ _).alloc (Nat.le_refl _) _
  have hPG : w.heap.size < w4.heap.size := by omega
  have HSA := hidE (show (w4.alloc (.cells #[.string gh, .string gr, .int .i64 gp, .int .i64 gq] 31)).heap.size = w4.heap.size + 1 by simp)
  have HNA := hidE (show w.heap.size ≤ (w4.alloc (.cells #[.string gh, .string gr, .int .i64 gp, .int .i64 gq] 31)).heap.size by rw [HSA.out]; omega)
  have HFA := hidE (hF4.below hbA (by omega))
  have HGA := hidE (show Four (w4.alloc (.cells #[.string gh, .string gr, .int .i64 gp, .int .i64 gq] 31)) w4.heap.size gh gr gp gq from Four.of_row (heap_alloc_new w4 _))
  have HbelA := hidE (hbel4.trans (hbA.mono (by omega)))
  clear f0 f1 f2 f3 hb4 hbel2 hbA hF4 hbel4 hs4
  go_wp2_with (at_make; refine wpList_make_own _ rfl _ _ 24 rfl w.heap.size 31 i0 (.agg #[.string ⟨#[]⟩, .string ⟨#[]⟩, .int .i64 0, .int .i64 0]) 4 Try.underlying24 hi hz0 hz1 _ _ _ 1 rfl rfl (by omega) (by rw [hz2]; omega) (by unfold maxLen; omega) HNA.out ?_)
  intro w6 hR6 hgr6
  have hbel6 : Below w.heap.size w w6 := HbelA.out.grown hgr6 HNA.out (fun j hj => by cases hj)
  have hbg6 : Below (w4.heap.size + 1) (w4.alloc (.cells #[.string gh, .string gr, .int .i64 gp, .int .i64 gq] 31)) w6 := (Below.refl _ _).grown hgr6 (by rw [HSA.out]; exact Nat.le_refl _) (fun j hj => by cases hj)
  have hFT6 := HFA.out.below hbg6 (by omega)
  have hFG6 := HGA.out.below hbg6 (by omega)
  have hs6 : w4.heap.size + 1 ≤ w6.heap.size := by have := hgr6.size; rw [HSA.out] at this; omega
  have hszA := HSA.out
  clear hgr6 HSA HNA HFA HGA HbelA hbg6
  generalize (w4.alloc (.cells #[.string gh, .string gr, .int .i64 gp, .int .i64 gq] 31)).heap.size = R at *
  subst hszA
  generalize w4.heap.size = G at *
  go_wp2_with (at_builtin; refine wpList_append_fits_any _ rfl (.tmp 50) (.tmp 53) 24 rfl w.heap.size 31 i0 4 Try.underlying24 hi hz1 (G + 1) 0 1 [] rfl hR6 none 0 0 [] rfl rfl (fun _ => ⟨rfl, rfl⟩) (fun ad h => by cases h) (fun u hu => by cases hu) (by omega) ?_)
  intro w7 hR7 hgr7
  have row : ∀ N, N ≤ G + 1 → ∀ j, some (G + 1) = some j → N ≤ j := fun N hN j hj => by have := Option.some.inj hj; omega
  have hbel7 : Below w.heap.size w w7 := hbel6.grown hgr7 (by omega) (row _ (by omega))
  have hbg7 : Below (G + 1) w6 w7 := (Below.refl _ _).grown hgr7 (by omega) (row _ (Nat.le_refl _))
  have hFT7 := hFT6.below hbg7 (by omega)
  have hFG7 := hFG6.below hbg7 (by omega)
  have hs7 := hgr7.size
  have hbS : Below w7.heap.size w7 (w7.alloc (.cells #[.string gh, .string gr, .int .i64 gp, .int .i64 gq] 31)) := (Below.refl _ _).alloc (Nat.le_refl _) _
  have HRS := hidE (own_below hR7 hbS)
  have HFTS := hidE (hFT7.below hbS (by omega))
  have HFGS := hidE (hFG7.below hbS (by omega))
  have HbelS := hidE (hbel7.trans (hbS.mono (by omega)))
  have HSS := hidE (show (w7.alloc (.cells #[.string gh, .string gr, .int .i64 gp, .int .i64 gq] 31)).heap.size = w7.heap.size + 1 by simp)
  have HNC := hidE (show ∀ j u, (gCells [⟨gh, gr, gp, gq⟩])[j]? = some u → (w7.alloc (.cells #[.string gh, .string gr, .int .i64 gp, .int .i64 gq] 31)).cell? ((⟨w7.heap.size, 0, none⟩ : Addr).add j) = some u from by
    intro j u hu
    rw [Addr.add_lit, Nat.zero_add]
    have hF : Four (w7.alloc (.cells #[.string gh, .string gr, .int .i64 gp, .int .i64 gq] 31)) w7.heap.size gh gr gp gq := Four.of_row (heap_alloc_new w7 _)
    have hj := (List.getElem?_eq_some_iff.1 hu).1
    rw [gCells_length] at hj
    match j, hj with
    | 0, _ => rw [hF.1]; exact hu
    | 1, _ => rw [hF.2.1]; exact hu
    | 2, _ => rw [hF.2.2.1]; exact hu
    | 3, _ => rw [hF.2.2.2]; exact hu)
  obtain ⟨g0, g1, g2, g3⟩ := hFG7
  clear hgr7 hbel6 hR6 hbg7 hFT6 hFG6 hFT7 hbel7 hbS hR7
  go_wp2_with (at_builtin; refine wpList_append_fits _ rfl (.tmp 55) (.tmp 57) 24 rfl w.heap.size 31 i0 4 Try.underlying24 hi hz1 (G + 1) 0 1 [] rfl HRS.out ⟨w7.heap.size, 0, none⟩ 1 1 (gCells [⟨gh, gr, gp, gq⟩]) rfl rfl HNC.out (gCells_one _) (by omega) ?_)
  intro w8 hR8 hgr8
  have hbel8 : Below w.heap.size w w8 := HbelS.out.grown hgr8 (by rw [HSS.out]; omega) (row _ (by omega))
  have hbg8 : Below (G + 1) (w7.alloc (.cells #[.string gh, .string gr, .int .i64 gp, .int .i64 gq] 31)) w8 := (Below.refl _ _).grown hgr8 (by rw [HSS.out]; omega) (row _ (Nat.le_refl _))
  have hFT8 := HFTS.out.below hbg8 (by omega)
  have hFG8 := HFGS.out.below hbg8 (by omega)
  have hs8 : w7.heap.size + 1 ≤ w8.heap.size := by have := hgr8.size; rw [HSS.out] at this; exact this
  clear hgr8 HRS HFTS HFGS HbelS HSS HNC hbg8 g0 g1 g2 g3
  go_wp2_with (at_builtin; refine wpList_append_fits_any _ rfl (.tmp 59) (.tmp 62) 24 rfl w.heap.size 31 i0 4 Try.underlying24 hi hz1 (G + 1) 1 1 (gCells [⟨gh, gr, gp, gq⟩]) rfl hR8 none 0 0 [] rfl rfl (fun _ => ⟨rfl, rfl⟩) (fun ad h => by cases h) (fun u hu => by cases hu) (by omega) ?_)
  intro w9 hR9 hgr9
  have hbel9 : Below w.heap.size w w9 := hbel8.grown hgr9 (by omega) (row _ (by omega))
  have hbg9 : Below (G + 1) w8 w9 := (Below.refl _ _).grown hgr9 (by omega) (row _ (Nat.le_refl _))
  have hFT9 := hFT8.below hbg9 (by omega)
  have hFG9 := hFG8.below hbg9 (by omega)
  have hs9 := hgr9.size
  clear hgr9 hbel8 hR8 hbg9 hFT8 hFG8
  go_wp2_with fail
  refine (sum_none none 0 w9).mono ?_
  rintro e w10 ⟨rfl, hb10⟩
  have hs10 := hb10.size
  have hR10 := own_below hR9 hb10
  have hbel10 : Below w.heap.size w w10 := hbel9.trans (hb10.mono (by omega))
  have hFT10 := hFT9.below hb10 (by omega)
  have hFG10 := hFG9.below hb10 (by omega)
  clear hb10 hR9 hbel9 hFT9 hFG9
  have hGR := Gs.of_own hR10 (l := [⟨gh, gr, gp, gq⟩]) rfl
  have hokN : Ok [⟨gh, gr, gp, gq⟩] := fun x hx => by simp at hx; subst hx; exact ⟨hp0, hp1⟩
  clear hR10
  go_wp2_with fail
  refine (sumHeadcounts _ _ _ _ w10 hGR hokN (fun a ha _ => by rw [← Option.some.inj ha]; show G + 1 < _; omega) (by omega)).mono ?_
  rintro e w11 ⟨rfl, hb11⟩
  have hs11 := hb11.size
  have hbel11 : Below w.heap.size w w11 := hbel10.trans (hb11.mono (by omega))
  obtain ⟨f0, f1, f2, f3⟩ := hFT10.below hb11 (by omega)
  obtain ⟨g0, g1, g2, g3⟩ := hFG10.below hb11 (by omega)
  clear hb11 hGR hokN hbel10 hFT10 hFG10
  have HOne := hidE (oneGrantRight ⟨gh, gr, gp, gq⟩ w11 hp0 hp1)
  dsimp only at HOne
  rw [sum_one ⟨gh, gr, gp, gq⟩ hp1]
  by_cases hneg : gp < 0
  · rw [if_pos hneg]
    go_wp2_with fail
    refine HOne.out.mono ?_
    rintro e w12 ⟨rfl, hb12⟩
    have hbel : Below w.heap.size w w12 := hbel11.trans (hb12.mono (by omega))
    clear HOne hb12 hbel11
    go_wp2
    go_ret
    exact ⟨rfl, hbel⟩
  · rw [if_neg hneg]
    have hpos : 0 ≤ gp := by omega
    have h5 : 0 ≤ 9223372036854775807 - gp := by omega
    go_wp2_with fail
    refine HOne.out.mono ?_
    rintro e w12 ⟨rfl, hb12⟩
    have hbel : Below w.heap.size w w12 := hbel11.trans (hb12.mono (by omega))
    clear HOne hb12 hbel11
    go_wp2
    go_ret
    exact ⟨rfl, hbel⟩

theorem lawB (ao : Option Addr) (n c : Nat) (i : Int) (gh gr : ByteArray) (gp gq : Int) (l : List Gr) (w : World) (hg : Gs w ao n l) (hok : Ok l) (hA : ∀ b : Addr, ao = some b → 0 < n → b.block < w.heap.size) (hp0 : -9223372036854775808 ≤ gp) (hp1 : gp ≤ 9223372036854775807) :
    Calls Try.prog 4 #[.slice ao n c, .agg #[.string gh, .string gr, .int .i64 gp, .int .i64 gq], .int .i64 i] w fun e w' => e = .returned (.bool true) ∧ Below w.heap.size w w' := by
  by_cases h : 65536 < n ∨ i < 0 ∨ (n : Int) < i
  · exact lawB_out ao n c i gh gr gp gq l w hg hA h
  · obtain ⟨k, rfl⟩ := Int.eq_ofNat_of_zero_le (show 0 ≤ i by omega)
    cases ao with
    | some a => exact lawB_some a n c k gh gr gp gq l w hg hok hA (by omega) (by omega) hp0 hp1
    | none =>
      have hl0 : l = [] := by
        match l, hg with
        | [], _ => rfl
        | x :: r, hg => obtain ⟨_, _, e, _⟩ := hg.cell 0 (by simp); cases e
      have hn0 : n = 0 := by have := hg.len; rw [hl0] at this; simpa using this.symm
      subst hn0
      obtain rfl : k = 0 := by omega
      exact lawB_nil c gh gr gp gq w hp0 hp1

end Go.Proofs.Qxb6608826a
