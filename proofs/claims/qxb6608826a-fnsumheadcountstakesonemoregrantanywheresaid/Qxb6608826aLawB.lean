/-
  THE WALK OF FnSumHeadcountsTakesOneMoreGrantAnywhere.
-/
import Derived.Test.Qxb6608826aLawAn
namespace Go.Proofs.Qxb6608826a
open Go Go.RowKit

/-- A grant's four cells at the head of block b. -/
def Four (w : World) (b : Nat) (h r : ByteArray) (p q : Int) : Prop :=
  w.cell? ⟨b, 0, none⟩ = some (.string h) ∧ w.cell? ⟨b, 1, none⟩ = some (.string r) ∧ w.cell? ⟨b, 2, none⟩ = some (.int .i64 p) ∧ w.cell? ⟨b, 3, none⟩ = some (.int .i64 q)

theorem Four.of_row {w : World} {b : Nat} {h r : ByteArray} {p q : Int} {t : TypeId} {f : Nat × Nat} (e : w.heap[b]? = some (.cells #[.string h, .string r, .int .i64 p, .int .i64 q] t f)) : Four w b h r p q :=
  ⟨cell_of_row _ b 0 _ t f e, cell_of_row _ b 1 _ t f e, cell_of_row _ b 2 _ t f e, cell_of_row _ b 3 _ t f e⟩

theorem Four.below {w w' : World} {b N : Nat} {h r : ByteArray} {p q : Int} (k : Four w b h r p q) (hb : Below N w w') (hlt : b < N) : Four w' b h r p q :=
  ⟨(hb.cell (p := ⟨b, 0, none⟩) hlt).trans k.1, (hb.cell (p := ⟨b, 1, none⟩) hlt).trans k.2.1, (hb.cell (p := ⟨b, 2, none⟩) hlt).trans k.2.2.1, (hb.cell (p := ⟨b, 3, none⟩) hlt).trans k.2.2.2⟩

set_option maxRecDepth 100000 in
set_option maxHeartbeats 1000000 in
theorem lawB_out (ao : Option Addr) (n c : Nat) (i : Int) (gh gr : ByteArray) (gp gq : Int) (l : List Gr) (w : World) (hg : Gs w ao n l) (hA : ∀ b : Addr, ao = some b → 0 < n → b.block < w.heap.size) (h : 65536 < n ∨ i < 0 ∨ (n : Int) < i) :
    Calls Try.prog 4 #[.slice ao n c, .agg #[.string gh, .string gr, .int .i64 gp, .int .i64 gq], .int .i64 i] w fun e w' => e = .returned (.bool true) ∧ Below w.heap.size w w' := by
  have hb0 : Below w.heap.size w (w.alloc (.cells #[.string gh, .string gr, .int .i64 gp, .int .i64 gq] 33)) := (Below.refl _ _).alloc (Nat.le_refl _) _
  have hF0 : Four (w.alloc (.cells #[.string gh, .string gr, .int .i64 gp, .int .i64 gq] 33)) w.heap.size gh gr gp gq := Four.of_row (heap_alloc_new w _)
  have hsz : (w.alloc (.cells #[.string gh, .string gr, .int .i64 gp, .int .i64 gq] 33)).heap.size = w.heap.size + 1 := by simp
  have hg0 := hg.below hb0 hA
  have HZ := hidE (zzBytesB ao n c i gh gr gp gq l _ hg0 (fun b hb h0 => by have := hA b hb h0; omega))
  have HF0 := hidE hF0
  have HSZ := hidE hsz
  clear hg0 hF0 hsz
  by_cases h1 : 65536 < n
  · go_enter Try.func4, Try.ntmps4
    go_wp2_with fail
    refine HZ.out.mono ?_
    rintro e w1 ⟨⟨b, rfl⟩, hb1⟩
    have hbel1 : Below w.heap.size w w1 := hb0.trans (hb1.mono (by rw [HSZ.out]; omega))
    clear hb1 hb0 HZ HF0
    cases b
    all_goals go_wp2
    all_goals go_ret
    all_goals exact ⟨rfl, hbel1⟩
  by_cases h2 : i < 0
  · have d2 : decide (i < 0) = true := decide_eq_true h2
    go_enter Try.func4, Try.ntmps4
    go_wp2_with fail
    refine HZ.out.mono ?_
    rintro e w1 ⟨⟨b, rfl⟩, hb1⟩
    have hbel1 : Below w.heap.size w w1 := hb0.trans (hb1.mono (by rw [HSZ.out]; omega))
    obtain ⟨f0, f1, f2, f3⟩ := HF0.out.below hb1 (by rw [HSZ.out]; omega)
    have hg1 := hg.below hbel1 hA
    clear hb1 hb0 HZ HF0
    cases b
    · go_wp2
      go_ret
      exact ⟨rfl, hbel1⟩
    go_wp2_with fail
    refine (tooBig ao n c _ l w1 hg1 (by omega)).mono ?_
    rintro e w2 ⟨⟨b, rfl⟩, q, hq⟩
    have hbel : Below w.heap.size w w2 := by rw [hq]; exact hbel1.trans ((below_drewN' w1 q).mono hbel1.size)
    clear hq f0 f1 f2 f3
    cases b
    all_goals go_wp2
    all_goals go_ret
    all_goals exact ⟨rfl, hbel⟩
  · have d2 : decide (i < 0) = false := decide_eq_false h2
    have d3 : decide ((n : Int) < i) = true := decide_eq_true (by omega)
    go_enter Try.func4, Try.ntmps4
    go_wp2_with fail
    refine HZ.out.mono ?_
    rintro e w1 ⟨⟨b, rfl⟩, hb1⟩
    have hbel1 : Below w.heap.size w w1 := hb0.trans (hb1.mono (by rw [HSZ.out]; omega))
    obtain ⟨f0, f1, f2, f3⟩ := HF0.out.below hb1 (by rw [HSZ.out]; omega)
    have hg1 := hg.below hbel1 hA
    clear hb1 hb0 HZ HF0
    cases b
    · go_wp2
      go_ret
      exact ⟨rfl, hbel1⟩
    go_wp2_with fail
    refine (tooBig ao n c _ l w1 hg1 (by omega)).mono ?_
    rintro e w2 ⟨⟨b, rfl⟩, q, hq⟩
    have hbel : Below w.heap.size w w2 := by rw [hq]; exact hbel1.trans ((below_drewN' w1 q).mono hbel1.size)
    clear hq f0 f1 f2 f3
    cases b
    all_goals go_wp2
    all_goals go_ret
    all_goals exact ⟨rfl, hbel⟩

set_option maxRecDepth 100000 in
set_option maxHeartbeats 4000000 in
theorem lawB_some (a : Addr) (n c k : Nat) (gh gr : ByteArray) (gp gq : Int) (l : List Gr) (w : World) (hg : Gs w (some a) n l) (hok : Ok l) (hA : ∀ b : Addr, some a = some b → 0 < n → b.block < w.heap.size) (hn : n ≤ 65536) (hk : k ≤ n)
    (hp0 : -9223372036854775808 ≤ gp) (hp1 : gp ≤ 9223372036854775807) :
    Calls Try.prog 4 #[.slice (some a) n c, .agg #[.string gh, .string gr, .int .i64 gp, .int .i64 gq], .int .i64 (k : Int)] w fun e w' => e = .returned (.bool true) ∧ Below w.heap.size w w' := by
  have HN : Hid (l.length = n) := hg.len
  have hb0 : Below w.heap.size w (w.alloc (.cells #[.string gh, .string gr, .int .i64 gp, .int .i64 gq] 33)) := (Below.refl _ _).alloc (Nat.le_refl _) _
  have HF0 := hidE (show Four (w.alloc (.cells #[.string gh, .string gr, .int .i64 gp, .int .i64 gq] 33)) w.heap.size gh gr gp gq from Four.of_row (heap_alloc_new w _))
  have HSZ := hidE (show (w.alloc (.cells #[.string gh, .string gr, .int .i64 gp, .int .i64 gq] 33)).heap.size = w.heap.size + 1 by simp)
  have hg0 := hg.below hb0 hA
  have HZ := hidE (zzBytesB (some a) n c k gh gr gp gq l _ hg0 (fun b hb h0 => by have := hA b hb h0; rw [HSZ.out]; omega))
  clear hg0
  obtain ⟨i0, hi, hz0, hz1, hz2⟩ := info_parts Try.info31
  go_enter Try.func4, Try.ntmps4
  go_wp2_with fail
  refine HZ.out.mono ?_
  rintro e w1 ⟨⟨b, rfl⟩, hb1⟩
  have hbel1 : Below w.heap.size w w1 := hb0.trans (hb1.mono (by rw [HSZ.out]; omega))
  have hF1 : Four w1 w.heap.size gh gr gp gq := HF0.out.below hb1 (by rw [HSZ.out]; omega)
  have hs1 : w.heap.size < w1.heap.size := by have := hb1.size; rw [HSZ.out] at this; omega
  clear hb1 hb0 HZ HF0 HSZ
  cases b
  · go_wp2
    go_ret
    exact ⟨rfl, hbel1⟩
  have hg1 := hg.below hbel1 hA
  obtain ⟨f0, f1, f2, f3⟩ := hF1
  go_wp2_with fail
  refine (tooBig (some a) n c _ l w1 hg1 (by omega)).mono ?_
  rintro e w2 ⟨⟨b, rfl⟩, q, hq⟩
  have hb2 : Below w1.heap.size w1 w2 := by rw [hq]; exact below_drewN' w1 q
  have hs2 := hb2.size
  have hbel2 : Below w.heap.size w w2 := hbel1.trans (hb2.mono (by omega))
  have hF2 := Four.below ⟨f0, f1, f2, f3⟩ hb2 hs1
  clear hq f0 f1 f2 f3 hb2 hg1 hbel1
  cases b
  case true =>
    go_wp2
    go_ret
    exact ⟨rfl, hbel2⟩
  have hg2 := hg.below hbel2 hA
  go_wp2_with fail
  refine (toPlan_some a n c l w2 hg2 (fun h => Nat.lt_of_lt_of_le (hA a rfl h) (by omega)) (by omega)).mono ?_
  rintro e w3 ⟨rfl, hown3, hb3⟩
  have hP3 : w2.heap.size < w3.heap.size := (hown3.lt _ rfl).2
  have hbel3 : Below w.heap.size w w3 := hbel2.trans (hb3.mono (by omega))
  obtain ⟨f0, f1, f2, f3⟩ := hF2.below hb3 (by omega)
  have hWP : w.heap.size < w2.heap.size := by omega
  have hAd : (if n = k then some (⟨w2.heap.size, 0, none⟩ : Addr) else some ⟨w2.heap.size, k * 4, none⟩) = cutA w2.heap.size n k := rfl
  clear hb3 hF2 hbel2 hg2 hg hs1 hs2
  generalize w2.heap.size = P at *
  go_wp2_with fail
  refine (toPlanGrant gh gr gp gq w3).mono ?_
  rintro e w4 ⟨rfl, hb4⟩
  have hs4 := hb4.size
  have hown4 := own_below hown3 hb4
  have hbel4 : Below w.heap.size w w4 := hbel3.trans (hb4.mono (by omega))
  have hF4 := Four.below ⟨f0, f1, f2, f3⟩ hb4 (by omega)
  have hbA : Below w4.heap.size w4 (w4.alloc (.cells #[.string gh, .string gr, .int .i64 gp, .int .i64 gq] 31)) := (Below.refl _ _).alloc (Nat.le_refl _) _
  have hownA := own_below hown4 hbA
  have hFA := hF4.below hbA (by omega)
  have hGA : Four (w4.alloc (.cells #[.string gh, .string gr, .int .i64 gp, .int .i64 gq] 31)) w4.heap.size gh gr gp gq := Four.of_row (heap_alloc_new w4 _)
  have hbelA : Below w.heap.size w (w4.alloc (.cells #[.string gh, .string gr, .int .i64 gp, .int .i64 gq] 31)) := hbel4.trans (hbA.mono (by omega))
  have HSA := hidE (show (w4.alloc (.cells #[.string gh, .string gr, .int .i64 gp, .int .i64 gq] 31)).heap.size = w4.heap.size + 1 by simp)
  have HNA := hidE (show w.heap.size ≤ (w4.alloc (.cells #[.string gh, .string gr, .int .i64 gp, .int .i64 gq] 31)).heap.size by rw [HSA.out]; omega)
  have hPG : P < w4.heap.size := by omega
  have HownA := hidE hownA
  have HFA := hidE hFA
  have HGA := hidE hGA
  have HbelA := hidE hbelA
  clear f0 f1 f2 f3 hb4 hown3 hbel3 hbA hown4 hF4 hbel4 hownA hFA hGA hbelA hs4
  go_wp2_with (at_make; refine wpList_make_own _ rfl _ _ 24 rfl w.heap.size 31 i0 (.agg #[.string ⟨#[]⟩, .string ⟨#[]⟩, .int .i64 0, .int .i64 0]) 4 Try.underlying24 hi hz0 hz1 _ _ _ (n + 1) rfl rfl (by omega) (by rw [hz2]; omega) (by unfold maxLen; omega) HNA.out ?_)
  intro w6 hR6 hgr6
  have hown6 := own_grown HownA.out hgr6 (by simp [Value.ownBlock])
  have hbel6 : Below w.heap.size w w6 := HbelA.out.grown hgr6 HNA.out (fun j hj => by cases hj)
  have hbg6 : Below (w4.heap.size + 1) (w4.alloc (.cells #[.string gh, .string gr, .int .i64 gp, .int .i64 gq] 31)) w6 := (Below.refl _ _).grown hgr6 (by rw [HSA.out]; exact Nat.le_refl _) (fun j hj => by cases hj)
  have hFT6 := HFA.out.below hbg6 (by omega)
  have hFG6 := HGA.out.below hbg6 (by omega)
  have hs6 : w4.heap.size + 1 ≤ w6.heap.size := by have := hgr6.size; rw [HSA.out] at this; omega
  have hszA := HSA.out
  clear hgr6 HSA HNA HownA HFA HGA HbelA hbg6
  generalize (w4.alloc (.cells #[.string gh, .string gr, .int .i64 gp, .int .i64 gq] 31)).heap.size = R at *
  subst hszA
  clear hP3
  generalize w4.heap.size = G at *
  go_wp2_with (at_builtin; refine wpList_append_fits_any _ rfl (.tmp 50) (.tmp 53) 24 rfl w.heap.size 31 i0 4 Try.underlying24 hi hz1 (G + 1) 0 (n + 1) [] rfl hR6 (some ⟨P, 0, none⟩) k n (gCells (l.take k)) rfl (by rw [gCells_length, List.length_take, HN.out]; omega) (fun h => by cases h) (take_cells hown6 HN.out hk) (gCells_one _) (by omega) ?_)
  intro w7 hR7 hgr7
  have hown7 := own_grown hown6 hgr7 (by simp [Value.ownBlock]; omega)
  have row : ∀ N, N ≤ G + 1 → ∀ j, some (G + 1) = some j → N ≤ j := fun N hN j hj => by have := Option.some.inj hj; omega
  have hbel7 : Below w.heap.size w w7 := hbel6.grown hgr7 (by omega) (row _ (by omega))
  have hbg7 : Below (G + 1) w6 w7 := (Below.refl _ _).grown hgr7 (by omega) (row _ (Nat.le_refl _))
  have hFT7 := hFT6.below hbg7 (by omega)
  have hFG7 := hFG6.below hbg7 (by omega)
  have hs7 := hgr7.size
  have hbS : Below w7.heap.size w7 (w7.alloc (.cells #[.string gh, .string gr, .int .i64 gp, .int .i64 gq] 31)) := (Below.refl _ _).alloc (Nat.le_refl _) _
  have HRS := hidE (own_below hR7 hbS)
  have HownS := hidE (own_below hown7 hbS)
  have HFTS := hidE (hFT7.below hbS (by omega))
  have HFGS := hidE (hFG7.below hbS (by omega))
  have HbelS := hidE (hbel7.trans (hbS.mono (by omega)))
  have HSS := hidE (show (w7.alloc (.cells #[.string gh, .string gr, .int .i64 gp, .int .i64 gq] 31)).heap.size = w7.heap.size + 1 by simp)
  have HGS := hidE (show Gs (w7.alloc (.cells #[.string gh, .string gr, .int .i64 gp, .int .i64 gq] 31)) (some ⟨w7.heap.size, 0, none⟩) 1 [⟨gh, gr, gp, gq⟩] from one_cells w7 ⟨gh, gr, gp, gq⟩)
  have HNC := hidE (show ∀ j u, (gCells [⟨gh, gr, gp, gq⟩])[j]? = some u → (w7.alloc (.cells #[.string gh, .string gr, .int .i64 gp, .int .i64 gq] 31)).cell? ((⟨w7.heap.size, 0, none⟩ : Addr).add j) = some u from by
    intro j u hu
    rw [Addr.add_lit, Nat.zero_add]
    have hF : Four (w7.alloc (.cells #[.string gh, .string gr, .int .i64 gp, .int .i64 gq] 31)) w7.heap.size gh gr gp gq := Four.of_row (heap_alloc_new w7 _)
    have hj := (List.getElem?_eq_some_iff.1 hu).1
    rw [gCells_length] at hj
    match j, hj with
    | 0, _ => rw [hF.1]; exact hu
    | 1, _ => rw [hF.2.1]; exact hu
    | 2, _ => rw [hF.2.2.1]; exact hu
    | 3, _ => rw [hF.2.2.2]; exact hu)
  have HO := hidE hown7
  obtain ⟨g0, g1, g2, g3⟩ := hFG7
  clear hgr7 hown6 hbel6 hR6 hbg7 hFT6 hFG6 hFT7 hbel7 hbS hR7 hown7
  go_wp2_with (at_builtin; refine wpList_append_fits _ rfl (.tmp 55) (.tmp 57) 24 rfl w.heap.size 31 i0 4 Try.underlying24 hi hz1 (G + 1) k (n + 1) (gCells (l.take k)) rfl HRS.out ⟨w7.heap.size, 0, none⟩ 1 1 (gCells [⟨gh, gr, gp, gq⟩]) rfl rfl HNC.out (gCells_one _) (by omega) ?_)
  intro w8 hR8 hgr8
  have hown8 := own_grown HownS.out hgr8 (by simp [Value.ownBlock]; omega)
  have hbel8 : Below w.heap.size w w8 := HbelS.out.grown hgr8 (by rw [HSS.out]; omega) (row _ (by omega))
  have hbg8 : Below (G + 1) (w7.alloc (.cells #[.string gh, .string gr, .int .i64 gp, .int .i64 gq] 31)) w8 := (Below.refl _ _).grown hgr8 (by rw [HSS.out]; omega) (row _ (Nat.le_refl _))
  have hFT8 := HFTS.out.below hbg8 (by omega)
  have hFG8 := HFGS.out.below hbg8 (by omega)
  have hs8 : w7.heap.size + 1 ≤ w8.heap.size := by have := hgr8.size; rw [HSS.out] at this; exact this
  clear hgr8 HRS HownS HFTS HFGS HbelS HSS HGS HNC HO hbg8 g0 g1 g2 g3
  rw [← gCells_append] at hR8
  go_wp2_with (at_builtin; refine wpList_append_fits_any _ rfl (.tmp 59) (.tmp 62) 24 rfl w.heap.size 31 i0 4 Try.underlying24 hi hz1 (G + 1) (k + 1) (n + 1) (gCells (l.take k ++ [⟨gh, gr, gp, gq⟩])) rfl hR8 (cutA P n k) (n - k) (n - k) (gCells (l.drop k)) rfl (by rw [gCells_length, List.length_drop, HN.out]) cutA_none (drop_cells hown8 HN.out hk) (gCells_one _) (by omega) ?_)
  intro w9 hR9 hgr9
  have hown9 := own_grown hown8 hgr9 (by simp [Value.ownBlock]; omega)
  have hbel9 : Below w.heap.size w w9 := hbel8.grown hgr9 (by omega) (row _ (by omega))
  have hbg9 : Below (G + 1) w8 w9 := (Below.refl _ _).grown hgr9 (by omega) (row _ (Nat.le_refl _))
  have hFT9 := hFT8.below hbg9 (by omega)
  have hFG9 := hFG8.below hbg9 (by omega)
  have hs9 := hgr9.size
  clear hgr9 hown8 hbel8 hR8 hbg9 hFT8 hFG8 hAd
  rw [← gCells_append] at hR9
  have hG9 := Gs.of_own hown9 HN.out
  go_wp2_with fail
  refine (sumHeadcounts _ _ _ l w9 hG9 hok (fun a ha _ => by rw [← Option.some.inj ha]; show P < _; omega) (by omega)).mono ?_
  rintro e w10 ⟨rfl, hb10⟩
  have hs10 := hb10.size
  have hR10 := own_below hR9 hb10
  have hbel10 : Below w.heap.size w w10 := hbel9.trans (hb10.mono (by omega))
  have hFT10 := hFT9.below hb10 (by omega)
  have hFG10 := hFG9.below hb10 (by omega)
  clear hb10 hG9 hown9 hR9 hbel9 hFT9 hFG9
  have hGR := Gs.of_own hR10 (by rw [List.length_append, List.length_append, List.length_drop, List.length_take, HN.out]; simp; omega)
  have hokN : Ok (l.take k ++ [⟨gh, gr, gp, gq⟩] ++ l.drop k) := ((hok.take k).append (fun x hx => by simp at hx; subst hx; exact ⟨hp0, hp1⟩)).append (hok.drop k)
  clear hR10
  go_wp2_with fail
  refine (sumHeadcounts _ _ _ _ w10 hGR hokN (fun a ha _ => by rw [← Option.some.inj ha]; show G + 1 < _; omega) (by omega)).mono ?_
  rintro e w11 ⟨rfl, hb11⟩
  have hs11 := hb11.size
  have hbel11 : Below w.heap.size w w11 := hbel10.trans (hb11.mono (by omega))
  obtain ⟨f0, f1, f2, f3⟩ := hFT10.below hb11 (by omega)
  obtain ⟨g0, g1, g2, g3⟩ := hFG10.below hb11 (by omega)
  clear hb11 hGR hokN hbel10 hFT10 hFG10
  have HOne := hidE (oneGrantRight ⟨gh, gr, gp, gq⟩ w11 hp0 hp1)
  dsimp only at HOne
  have eh : heads (l.take k ++ [⟨gh, gr, gp, gq⟩] ++ l.drop k) = heads (l.take k) ++ [gp] ++ heads (l.drop k) := by simp [heads]
  rw [eh]
  clear eh
  by_cases hneg : gp < 0
  · rw [more_neg _ _ gp hneg]
    generalize sumFrom 0 (heads l) = r
    go_wp2_with fail
    refine HOne.out.mono ?_
    rintro e w12 ⟨rfl, hb12⟩
    have hbel : Below w.heap.size w w12 := hbel11.trans (hb12.mono (by omega))
    clear HOne hb12 hbel11
    go_wp2
    go_ret
    exact ⟨rfl, hbel⟩
  have hpos : 0 ≤ gp := by omega
  have key := more_ways (heads (l.take k)) (heads (l.drop k)) gp hpos
  rw [← heads_split] at key
  generalize sumFrom 0 (heads (l.take k) ++ [gp] ++ heads (l.drop k)) = rn at key ⊢
  generalize sumFrom 0 (heads l) = r at key ⊢
  rcases key with ⟨t, rfl, h0, h1, rfl⟩ | ⟨t, rfl, h0, h1, h2, rfl⟩ | ⟨rfl, rfl⟩
  · have h5 : t ≤ 9223372036854775807 - gp := by omega
    go_wp2_with fail
    refine HOne.out.mono ?_
    rintro e w12 ⟨rfl, hb12⟩
    have hbel : Below w.heap.size w w12 := hbel11.trans (hb12.mono (by omega))
    clear HOne hb12 hbel11
    go_wp2
    go_ret
    exact ⟨rfl, hbel⟩
  · have h5 : decide (t ≤ 9223372036854775807 - gp) = false := decide_eq_false (by omega)
    go_wp2_with fail
    refine HOne.out.mono ?_
    rintro e w12 ⟨rfl, hb12⟩
    have hbel : Below w.heap.size w w12 := hbel11.trans (hb12.mono (by omega))
    clear HOne hb12 hbel11
    go_wp2
    go_ret
    exact ⟨rfl, hbel⟩
  · skip
    go_wp2_with fail
    refine HOne.out.mono ?_
    rintro e w12 ⟨rfl, hb12⟩
    have hbel : Below w.heap.size w w12 := hbel11.trans (hb12.mono (by omega))
    clear HOne hb12 hbel11
    go_wp2
    go_ret
    exact ⟨rfl, hbel⟩

end Go.Proofs.Qxb6608826a
