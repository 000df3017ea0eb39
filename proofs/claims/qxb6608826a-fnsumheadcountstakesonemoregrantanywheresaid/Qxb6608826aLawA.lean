/-
  THE WALK OF FnSumHeadcountsAddsUpOverAnyCut.
-/
import Derived.Test.Qxb6608826aPlanW
namespace Go.Proofs.Qxb6608826a
open Go Go.RowKit

theorem hidE {p : Prop} (h : p) : Hid p := h

theorem below_drewN' (w : World) (q : Nat) : Below w.heap.size w (w.drewN q) := ⟨rfl, rfl, rfl, Nat.le_refl _, fun _ _ => rfl⟩

theorem own_below {w w' : World} {base : Nat} {e : TypeId} {size : Nat} {v : Value} {n : Nat} {xs : List Value} (h : w.ownsRow base e size v n xs) (hb : Below w.heap.size w w') : w'.ownsRow base e size v n xs := by
  refine ⟨h.1, ?_⟩
  rcases h.2 with h0 | ⟨g, cap, cur, hv, hbb, hgg, rest⟩
  · exact .inl h0
  · exact .inr ⟨g, cap, cur, hv, hbb, (hb.block g (Array.getElem?_eq_some_iff.1 hgg).1).trans hgg, rest⟩

theorem own_grown {w w' : World} {base : Nat} {e : TypeId} {size : Nat} {v : Value} {n : Nat} {xs : List Value} {row : Option Nat} (h : w.ownsRow base e size v n xs) (hb : w.grownBy w' row) (hr : v.ownBlock ≠ row) : w'.ownsRow base e size v n xs :=
  h.kept hb (.inr hr)

/-- Where 'all[k:]' begins. -/
def cutA (P n k : Nat) : Option Addr := if n = k then some ⟨P, 0, none⟩ else some ⟨P, k * 4, none⟩

theorem cutA_block {P n k : Nat} {a : Addr} (h : cutA P n k = some a) : a.block = P := by
  unfold cutA at h
  split at h
  · rw [← Option.some.inj h]
  · rw [← Option.some.inj h]

theorem cutA_none {P n k : Nat} (h : cutA P n k = none) : n - k = 0 ∧ n - k = 0 := by
  unfold cutA at h
  split at h <;> cases h

theorem Gs.take {w : World} {P n : Nat} {l : List Gr} (h : Gs w (some ⟨P, 0, none⟩) n l) {k : Nat} (hk : k ≤ n) : Gs w (some ⟨P, 0, none⟩) k (l.take k) := by
  have hl := h.len
  refine ⟨by rw [List.length_take]; omega, fun j hj => ?_⟩
  rw [List.length_take] at hj
  obtain ⟨b, off, e, c⟩ := h.cell j (by omega)
  refine ⟨b, off, e, ?_⟩
  simpa using c

theorem Gs.drop {w : World} {P n : Nat} {l : List Gr} (h : Gs w (some ⟨P, 0, none⟩) n l) {k : Nat} : Gs w (cutA P n k) (n - k) (l.drop k) := by
  have hl := h.len
  refine ⟨by rw [List.length_drop]; omega, fun j hj => ?_⟩
  rw [List.length_drop] at hj
  obtain ⟨b, off, e, c0, c1, c2, c3⟩ := h.cell (k + j) (by omega)
  have e := Option.some.inj e
  injection e with e1 e2 e3
  subst e1 e2
  refine ⟨P, k * 4, by unfold cutA; rw [if_neg (by omega)], ?_⟩
  have ea : 0 + (k + j) * 4 = k * 4 + j * 4 := by omega
  rw [ea] at c0 c1 c2 c3
  simpa using ⟨c0, c1, c2, c3⟩

theorem gCells_split (l : List Gr) (k : Nat) : gCells l = gCells (l.take k) ++ gCells (l.drop k) := by
  rw [← gCells_append, List.take_append_drop]

theorem drop_cells {w : World} {B P n k : Nat} {l : List Gr} (h : w.ownsRow B 31 4 (.slice (some ⟨P, 0, none⟩) n n) n (gCells l)) (hn : l.length = n) (hk : k ≤ n) : ∀ ad, cutA P n k = some ad → ∀ j u, (gCells (l.drop k))[j]? = some u → w.cell? (ad.add j) = some u := by
  intro ad ha j u hu
  have hj := (List.getElem?_eq_some_iff.1 hu).1
  rw [gCells_length, List.length_drop] at hj
  unfold cutA at ha
  rw [if_neg (by omega)] at ha
  rw [← Option.some.inj ha, Addr.add_lit, h.cellAt (k * 4 + j) (by omega), gCells_split l k, List.getElem?_append_right (by rw [gCells_length, List.length_take]; omega), gCells_length, List.length_take]
  rw [← hu]
  congr 1
  omega

theorem take_cells {w : World} {B P n k : Nat} {l : List Gr} (h : w.ownsRow B 31 4 (.slice (some ⟨P, 0, none⟩) n n) n (gCells l)) (hn : l.length = n) (hk : k ≤ n) : ∀ ad, some (⟨P, 0, none⟩ : Addr) = some ad → ∀ j u, (gCells (l.take k))[j]? = some u → w.cell? (ad.add j) = some u := by
  intro ad ha j u hu
  have hj := (List.getElem?_eq_some_iff.1 hu).1
  have hj' := hj
  rw [gCells_length, List.length_take] at hj
  rw [← Option.some.inj ha, Addr.add_lit, Nat.zero_add, h.cellAt j (by omega), gCells_split l k, List.getElem?_append_left hj']
  exact hu

theorem Ok.take {l : List Gr} (h : Ok l) (k : Nat) : Ok (l.take k) := fun g hg => h g (List.mem_of_mem_take hg)
theorem Ok.drop {l : List Gr} (h : Ok l) (k : Nat) : Ok (l.drop k) := fun g hg => h g (List.mem_of_mem_drop hg)
theorem Ok.append {a b : List Gr} (h : Ok a) (k : Ok b) : Ok (a ++ b) := fun g hg => by
  rcases List.mem_append.1 hg with x | x
  · exact h g x
  · exact k g x

theorem heads_split (l : List Gr) (k : Nat) : heads l = heads (l.take k) ++ heads (l.drop k) := by
  simp only [heads, ← List.map_append, List.take_append_drop]
theorem heads_append (a b : List Gr) : heads (a ++ b) = heads a ++ heads b := by simp [heads]

set_option maxRecDepth 100000 in
set_option maxHeartbeats 1000000 in
theorem lawA_out (ao : Option Addr) (n c : Nat) (i : Int) (l : List Gr) (w : World) (hg : Gs w ao n l) (h : 65536 < n ∨ i < 0 ∨ (n : Int) < i) :
    Calls Try.prog 3 #[.slice ao n c, .int .i64 i] w fun e w' => e = .returned (.bool true) ∧ Below w.heap.size w w' := by
  by_cases h1 : 65536 < n
  · go_enter Try.func3, Try.ntmps3
    go_wp2_with fail
    refine (zzBytesA ao n c i l w hg).mono ?_
    rintro e w1 ⟨⟨b, rfl⟩, rfl⟩
    cases b
    all_goals go_wp2
    all_goals go_ret
    all_goals exact ⟨rfl, Below.refl _ _⟩
  by_cases h2 : i < 0
  · have d2 : decide (i < 0) = true := decide_eq_true h2
    go_enter Try.func3, Try.ntmps3
    go_wp2_with fail
    refine (zzBytesA ao n c i l w hg).mono ?_
    rintro e w1 ⟨⟨b, rfl⟩, rfl⟩
    cases b
    · go_wp2
      go_ret
      exact ⟨rfl, Below.refl _ _⟩
    go_wp2_with fail
    refine (tooBig ao n c 0 l w hg (by omega)).mono ?_
    rintro e w1 ⟨⟨b, rfl⟩, q, hq⟩
    have hbel : Below w.heap.size w w1 := by rw [hq]; exact below_drewN' w q
    clear hq
    cases b
    all_goals go_wp2
    all_goals go_ret
    all_goals exact ⟨rfl, hbel⟩
  · have h3 : (n : Int) < i := by omega
    have d2 : decide (i < 0) = false := decide_eq_false h2
    have d3 : decide ((n : Int) < i) = true := decide_eq_true h3
    go_enter Try.func3, Try.ntmps3
    go_wp2_with fail
    refine (zzBytesA ao n c i l w hg).mono ?_
    rintro e w1 ⟨⟨b, rfl⟩, rfl⟩
    cases b
    · go_wp2
      go_ret
      exact ⟨rfl, Below.refl _ _⟩
    go_wp2_with fail
    refine (tooBig ao n c 0 l w hg (by omega)).mono ?_
    rintro e w1 ⟨⟨b, rfl⟩, q, hq⟩
    have hbel : Below w.heap.size w w1 := by rw [hq]; exact below_drewN' w q
    clear hq
    cases b
    all_goals go_wp2
    all_goals go_ret
    all_goals exact ⟨rfl, hbel⟩

set_option maxRecDepth 100000 in
set_option maxHeartbeats 4000000 in
theorem lawA_some (a : Addr) (n c k : Nat) (l : List Gr) (w : World) (hg : Gs w (some a) n l) (hok : Ok l) (hA : ∀ b : Addr, some a = some b → 0 < n → b.block < w.heap.size) (hn : n ≤ 65536) (hk : k ≤ n) :
    Calls Try.prog 3 #[.slice (some a) n c, .int .i64 (k : Int)] w fun e w' => e = .returned (.bool true) ∧ Below w.heap.size w w' := by
  have HN : Hid (l.length = n) := hg.len
  obtain ⟨i0, hi, hz0, hz1, hz2⟩ := info_parts Try.info31
  go_enter Try.func3, Try.ntmps3
  go_wp2_with fail
  refine (zzBytesA (some a) n c k l w hg).mono ?_
  rintro e w1 ⟨⟨b, rfl⟩, rfl⟩
  cases b
  · go_wp2
    go_ret
    exact ⟨rfl, Below.refl _ _⟩
  go_wp2_with fail
  refine (tooBig (some a) n c 0 l w hg (by omega)).mono ?_
  rintro e w1 ⟨⟨b, rfl⟩, q, hq⟩
  have hbel1 : Below w.heap.size w w1 := by rw [hq]; exact below_drewN' w q
  clear hq
  cases b
  case true =>
    go_wp2
    go_ret
    exact ⟨rfl, hbel1⟩
  have hg1 := hg.below hbel1 hA
  have hs1 := hbel1.size
  go_wp2_with fail
  refine (toPlan_some a n c l w1 hg1 (fun h => Nat.lt_of_lt_of_le (hA a rfl h) hs1) (by omega)).mono ?_
  rintro e w2 ⟨rfl, hown2, hb2⟩
  have hP2 : w1.heap.size < w2.heap.size := (hown2.lt _ rfl).2
  have hbel2 : Below w.heap.size w w2 := hbel1.trans (hb2.mono hs1)
  have hAd : (if n = k then some (⟨w1.heap.size, 0, none⟩ : Addr) else some ⟨w1.heap.size, k * 4, none⟩) = cutA w1.heap.size n k := rfl
  have hG2 := Gs.of_own hown2 HN.out
  clear hbel1 hb2 hg hg1
  generalize w1.heap.size = P at *
  go_wp2_with fail
  refine (sumHeadcounts _ _ _ l w2 hG2 hok (fun a ha _ => by rw [← Option.some.inj ha]; exact hP2) (by omega)).mono ?_
  rintro e w3 ⟨rfl, hb3⟩
  have hs3 := hb3.size
  have hs2 := hbel2.size
  have hown3 := own_below hown2 hb3
  have hbel3 : Below w.heap.size w w3 := hbel2.trans (hb3.mono hs2)
  have hG3 := Gs.of_own hown3 HN.out
  clear hown2 hb3 hG2 hbel2
  go_wp2_with fail
  refine (sumHeadcounts _ _ _ (l.take k) w3 (hG3.take hk) (hok.take k) (fun a ha _ => by rw [← Option.some.inj ha]; show P < _; omega) (by omega)).mono ?_
  rintro e w4 ⟨rfl, hb4⟩
  have hs4 := hb4.size
  have hown4 := own_below hown3 hb4
  have hbel4 : Below w.heap.size w w4 := hbel3.trans (hb4.mono (by omega))
  have hG4 := Gs.of_own hown4 HN.out
  clear hown3 hb4 hG3 hbel3
  go_wp2_with fail
  refine (sumHeadcounts _ _ _ (l.drop k) w4 hG4.drop (hok.drop k) (fun a ha _ => by rw [cutA_block ha]; omega) (by omega)).mono ?_
  rintro e w5 ⟨rfl, hb5⟩
  have hs5 := hb5.size
  have hown5 := own_below hown4 hb5
  have hbel5 : Below w.heap.size w w5 := hbel4.trans (hb5.mono (by omega))
  clear hown4 hb5 hG4 hbel4
  go_wp2_with (at_make; refine wpList_make_own _ rfl _ _ 24 rfl w.heap.size 31 i0 (.agg #[.string ⟨#[]⟩, .string ⟨#[]⟩, .int .i64 0, .int .i64 0]) 4 Try.underlying24 hi hz0 hz1 _ _ _ n rfl rfl (by omega) (by rw [hz2]; omega) (by unfold maxLen; omega) (by omega) ?_)
  intro w6 hR6 hgr6
  have hown6 := own_grown hown5 hgr6 (by simp [Value.ownBlock])
  have hbel6 : Below w.heap.size w w6 := hbel5.grown hgr6 (by omega) (fun j hj => by cases hj)
  have hs6 := hgr6.size
  have hPR : P < w5.heap.size := by omega
  clear hgr6 hown5 hbel5
  generalize w5.heap.size = R at *
  go_wp2_with (at_builtin; refine wpList_append_fits_any _ rfl (.tmp 61) (.tmp 62) 24 rfl w.heap.size 31 i0 4 Try.underlying24 hi hz1 R 0 n [] rfl hR6 (cutA P n k) (n - k) (n - k) (gCells (l.drop k)) rfl (by rw [gCells_length, List.length_drop, HN.out]) cutA_none (drop_cells hown6 HN.out hk) (gCells_one _) (by omega) ?_)
  intro w7 hR7 hgr7
  have hown7 := own_grown hown6 hgr7 (by simp [Value.ownBlock]; omega)
  have hbel7 : Below w.heap.size w w7 := hbel6.grown hgr7 (by omega) (fun j hj => by have := Option.some.inj hj; omega)
  have hs7 := hgr7.size
  clear hgr7 hown6 hbel6 hR6
  go_wp2_with (at_builtin; refine wpList_append_fits_any _ rfl (.tmp 64) (.tmp 65) 24 rfl w.heap.size 31 i0 4 Try.underlying24 hi hz1 R (n - k) n (gCells (l.drop k)) rfl hR7 (some ⟨P, 0, none⟩) k n (gCells (l.take k)) rfl (by rw [gCells_length, List.length_take, HN.out]; omega) (fun h => by cases h) (take_cells hown7 HN.out hk) (gCells_one _) (by omega) ?_)
  intro w8 hR8 hgr8
  have hown8 := own_grown hown7 hgr8 (by simp [Value.ownBlock]; omega)
  have hbel8 : Below w.heap.size w w8 := hbel7.grown hgr8 (by omega) (fun j hj => by have := Option.some.inj hj; omega)
  have hs8 := hgr8.size
  clear hgr8 hown7 hbel7 hR7
  rw [← gCells_append] at hR8
  have hGR := Gs.of_own hR8 (by rw [List.length_append, List.length_drop, List.length_take, HN.out]; omega)
  have hRlt : R < w8.heap.size := (hR8.lt _ rfl).2
  clear hR8
  go_wp2_with fail
  refine (sumHeadcounts _ _ _ (l.drop k ++ l.take k) w8 hGR ((hok.drop k).append (hok.take k)) (fun a ha _ => by rw [← Option.some.inj ha]; exact hRlt) (by omega)).mono ?_
  rintro e w9 ⟨rfl, hb9⟩
  have hown9 := own_below hown8 hb9
  have hs9 := hb9.size
  have hbel9 : Below w.heap.size w w9 := hbel8.trans (hb9.mono (by omega))
  have hG9 := Gs.of_own hown9 HN.out
  clear hown8 hb9 hGR hbel8 hown9 hAd
  have key : Cut (sumFrom 0 (heads l)) (sumFrom 0 (heads (l.take k))) (sumFrom 0 (heads (l.drop k))) (sumFrom 0 (heads (l.drop k ++ l.take k))) := by
    have h := cut_ways (heads (l.take k)) (heads (l.drop k))
    rw [← heads_split, ← heads_append] at h
    exact h
  generalize sumFrom 0 (heads l) = r at key ⊢
  generalize sumFrom 0 (heads (l.take k)) = r1 at key ⊢
  generalize sumFrom 0 (heads (l.drop k)) = r2 at key ⊢
  generalize sumFrom 0 (heads (l.drop k ++ l.take k)) = rr at key ⊢
  rcases key with ⟨x, y, rfl, rfl, h0, h1, h2, rfl, rfl⟩ | ⟨x, y, rfl, rfl, h0, h1, h2, h3, h4, rfl, rfl⟩ | ⟨rfl, rfl, rfl⟩ | ⟨x, rfl, rfl, rfl, rfl⟩
  · have h5 : x ≤ 9223372036854775807 - y := by omega
    skip
    by_cases hin : k < n
    · have hkl : k < l.length := by rw [HN.out]; exact hin
      obtain ⟨b1, o1, e1, q0, q1, q2, q3⟩ := hG9.cell k hkl
      have e1 := Option.some.inj e1
      injection e1 with e1a e1b e1c
      subst e1a e1b
      rw [Nat.zero_add] at q0 q1 q2 q3
      obtain ⟨o1, o2⟩ := hok _ (List.getElem_mem hkl)
      have hOne := oneGrantRight l[k] w9 o1 o2
      have HOne := hidE hOne
      clear hOne
      generalize l[k] = g at q0 q1 q2 q3 HOne
      obtain ⟨gh, gr, gc, gq⟩ := g
      dsimp only at q0 q1 q2 q3 HOne
      have d5 : decide ((k : Int) < (n : Int)) = true := decide_eq_true (by omega)
      clear hG9 e1c
      go_wp2_with fail
      refine HOne.out.mono ?_
      rintro e w10 ⟨rfl, hb10⟩
      have hbel : Below w.heap.size w w10 := hbel9.trans (hb10.mono (by omega))
      clear HOne hb10 hbel9 q0 q1 q2 q3
      go_wp2
      go_ret
      exact ⟨rfl, hbel⟩
    · have d5 : decide ((k : Int) < (n : Int)) = false := decide_eq_false (by omega)
      clear hG9
      go_wp2
      go_ret
      exact ⟨rfl, hbel9⟩
  · have h5 : decide (x ≤ 9223372036854775807 - y) = false := decide_eq_false (by omega)
    skip
    by_cases hin : k < n
    · have hkl : k < l.length := by rw [HN.out]; exact hin
      obtain ⟨b1, o1, e1, q0, q1, q2, q3⟩ := hG9.cell k hkl
      have e1 := Option.some.inj e1
      injection e1 with e1a e1b e1c
      subst e1a e1b
      rw [Nat.zero_add] at q0 q1 q2 q3
      obtain ⟨o1, o2⟩ := hok _ (List.getElem_mem hkl)
      have hOne := oneGrantRight l[k] w9 o1 o2
      have HOne := hidE hOne
      clear hOne
      generalize l[k] = g at q0 q1 q2 q3 HOne
      obtain ⟨gh, gr, gc, gq⟩ := g
      dsimp only at q0 q1 q2 q3 HOne
      have d5 : decide ((k : Int) < (n : Int)) = true := decide_eq_true (by omega)
      clear hG9 e1c
      go_wp2_with fail
      refine HOne.out.mono ?_
      rintro e w10 ⟨rfl, hb10⟩
      have hbel : Below w.heap.size w w10 := hbel9.trans (hb10.mono (by omega))
      clear HOne hb10 hbel9 q0 q1 q2 q3
      go_wp2
      go_ret
      exact ⟨rfl, hbel⟩
    · have d5 : decide ((k : Int) < (n : Int)) = false := decide_eq_false (by omega)
      clear hG9
      go_wp2
      go_ret
      exact ⟨rfl, hbel9⟩
  · skip
    by_cases hin : k < n
    · have hkl : k < l.length := by rw [HN.out]; exact hin
      obtain ⟨b1, o1, e1, q0, q1, q2, q3⟩ := hG9.cell k hkl
      have e1 := Option.some.inj e1
      injection e1 with e1a e1b e1c
      subst e1a e1b
      rw [Nat.zero_add] at q0 q1 q2 q3
      obtain ⟨o1, o2⟩ := hok _ (List.getElem_mem hkl)
      have hOne := oneGrantRight l[k] w9 o1 o2
      have HOne := hidE hOne
      clear hOne
      generalize l[k] = g at q0 q1 q2 q3 HOne
      obtain ⟨gh, gr, gc, gq⟩ := g
      dsimp only at q0 q1 q2 q3 HOne
      have d5 : decide ((k : Int) < (n : Int)) = true := decide_eq_true (by omega)
      clear hG9 e1c
      go_wp2_with fail
      refine HOne.out.mono ?_
      rintro e w10 ⟨rfl, hb10⟩
      have hbel : Below w.heap.size w w10 := hbel9.trans (hb10.mono (by omega))
      clear HOne hb10 hbel9 q0 q1 q2 q3
      go_wp2
      go_ret
      exact ⟨rfl, hbel⟩
    · have d5 : decide ((k : Int) < (n : Int)) = false := decide_eq_false (by omega)
      clear hG9
      go_wp2
      go_ret
      exact ⟨rfl, hbel9⟩
  · skip
    by_cases hin : k < n
    · have hkl : k < l.length := by rw [HN.out]; exact hin
      obtain ⟨b1, o1, e1, q0, q1, q2, q3⟩ := hG9.cell k hkl
      have e1 := Option.some.inj e1
      injection e1 with e1a e1b e1c
      subst e1a e1b
      rw [Nat.zero_add] at q0 q1 q2 q3
      obtain ⟨o1, o2⟩ := hok _ (List.getElem_mem hkl)
      have hOne := oneGrantRight l[k] w9 o1 o2
      have HOne := hidE hOne
      clear hOne
      generalize l[k] = g at q0 q1 q2 q3 HOne
      obtain ⟨gh, gr, gc, gq⟩ := g
      dsimp only at q0 q1 q2 q3 HOne
      have d5 : decide ((k : Int) < (n : Int)) = true := decide_eq_true (by omega)
      clear hG9 e1c
      go_wp2_with fail
      refine HOne.out.mono ?_
      rintro e w10 ⟨rfl, hb10⟩
      have hbel : Below w.heap.size w w10 := hbel9.trans (hb10.mono (by omega))
      clear HOne hb10 hbel9 q0 q1 q2 q3
      go_wp2
      go_ret
      exact ⟨rfl, hbel⟩
    · have d5 : decide ((k : Int) < (n : Int)) = false := decide_eq_false (by omega)
      clear hG9
      go_wp2
      go_ret
      exact ⟨rfl, hbel9⟩

end Go.Proofs.Qxb6608826a
