/-
  THE WALKS OF SumHeadcounts, oneGrantRight, toPlanGrant.
-/
import Derived.Test.Qxb6608826aMem
namespace Go.Proofs.Qxb6608826a
open Go Go.RowKit

theorem heads_take_succ (l : List Gr) (k : Nat) (h : k < l.length) : heads (l.take (k + 1)) = heads (l.take k) ++ [(l[k]).head] := by
  rw [List.take_succ_eq_append_getElem h]; simp only [heads, List.map_append, List.map_cons, List.map_nil]

theorem sum_step (l : List Gr) (k : Nat) (h : k < l.length) (t : Int) (ht : sumFrom 0 (heads (l.take k)) = some t) (h0 : 0 ≤ (l[k]).head) (hs : t + (l[k]).head ≤ 9223372036854775807) :
    sumFrom 0 (heads (l.take (k + 1))) = some (t + (l[k]).head) := by
  rw [heads_take_succ l k h, sumFrom_append, ht]
  show (if _ then _ else _) = _
  rw [if_neg (by omega)]; rfl

theorem sum_stop (l : List Gr) (k : Nat) (h : k < l.length) (t : Int) (ht : sumFrom 0 (heads (l.take k)) = some t) (hs : (l[k]).head < 0 ∨ 9223372036854775807 < t + (l[k]).head) :
    sumFrom 0 (heads l) = none := by
  have e : heads l = heads (l.take (k + 1)) ++ heads (l.drop (k + 1)) := by
    simp only [heads, ← List.map_append, List.take_append_drop]
  rw [e]
  apply none_left
  rw [heads_take_succ l k h, sumFrom_append, ht]
  show (if _ then _ else _) = _
  rw [if_pos hs]

theorem ret_sum {a b : Int} {x y : Bool} (h1 : a = b) (h2 : x = y) : Ending.returned (.tuple #[.int .i64 a, .bool x]) = .returned (.tuple #[.int .i64 b, .bool y]) := by rw [h1, h2]

set_option maxHeartbeats 1000000 in
theorem sumHeadcounts (ao : Option Addr) (n c : Nat) (l : List Gr) (w : World) (hg : Gs w ao n l) (hok : Ok l) (hA : ∀ a : Addr, ao = some a → 0 < n → a.block < w.heap.size) (hn : n ≤ 1048576) :
    Calls Try.prog 8 #[.slice ao n c] w fun e w' => e = .returned (.tuple #[.int .i64 ((sumFrom 0 (heads l)).getD 0), .bool (sumFrom 0 (heads l)).isSome]) ∧ Below w.heap.size w w' := by
  have HN : Hid (l.length = n) := hg.len
  obtain ⟨r, hr⟩ : ∃ r, r = sumFrom 0 (heads l) := ⟨_, rfl⟩
  rw [← hr]
  have HR : Hid (r = sumFrom 0 (heads l)) := hr
  clear hr
  go_enter Try.func8, Try.ntmps8
  go_wp2
  go_loopw [2, 3, 8] (fun vt vo vi wr => ∃ (k : Nat) (t : Int) (b : Bool), vt = .int .i64 t ∧ vo = .bool b ∧ vi = .int .i64 k ∧ k ≤ n ∧ 0 ≤ t ∧ t ≤ 9223372036854775807 ∧ Hid (sumFrom 0 (heads (l.take k)) = some t) ∧ Below w.heap.size w wr) (fun _ _ vi _ => n - (intOf vi).toNat)
  case atStart => exact ⟨0, 0, false, rfl, rfl, rfl, Nat.zero_le _, by omega, by omega, rfl, Below.refl _ _⟩
  case round =>
    obtain ⟨k, t, b, rfl, rfl, rfl, hk, ht0, ht1, HT, hbel⟩ := hrel
    have hsz := hbel.size
    by_cases hlt : k < n
    · have hkl : k < l.length := by rw [HN.out]; exact hlt
      obtain ⟨bb, off, e, c0, c1, c2, c3⟩ := hg.cell k hkl
      have hp := hA ⟨bb, off, none⟩ e (by omega)
      have q0 := (hbel.cell (p := ⟨bb, off + k * 4, none⟩) hp).trans c0
      have q1 := (hbel.cell (p := ⟨bb, off + k * 4 + 1, none⟩) hp).trans c1
      have q2 := (hbel.cell (p := ⟨bb, off + k * 4 + 1 + 1, none⟩) hp).trans c2
      have q3 := (hbel.cell (p := ⟨bb, off + k * 4 + 1 + 1 + 1, none⟩) hp).trans c3
      obtain ⟨o1, o2⟩ := hok _ (List.getElem_mem hkl)
      subst e
      clear c0 c1 c2 c3
      by_cases hs : 0 ≤ (l[k]).head ∧ t + (l[k]).head ≤ 9223372036854775807
      · obtain ⟨s1, s2⟩ := hs
        have HS : Hid (sumFrom 0 (heads (l.take (k + 1))) = some (t + (l[k]).head)) := sum_step l k hkl t HT.out s1 s2
        generalize l[k] = g at q0 q1 q2 q3 o1 o2 s1 s2 HS
        obtain ⟨gh, gr, gc, gq⟩ := g
        dsimp only at q0 q1 q2 q3 o1 o2 s1 s2 HS
        go_wp2_with fail
        refine (add_ok t gc _ ht0 s1 s2).mono ?_
        rintro e w1 ⟨rfl, rfl⟩
        go_wp2
        go_roundw
        case rel => exact ⟨k + 1, t + gc, true, rfl, rfl, by go_num, by omega, by omega, s2, HS, hbel.alloc hsz _⟩
        case measure => simp [intOf]; omega
      · have hs' : (l[k]).head < 0 ∨ 9223372036854775807 < t + (l[k]).head := by omega
        have HS : Hid (r = none) := by rw [HR.out]; exact sum_stop l k hkl t HT.out hs'
        clear hs
        generalize l[k] = g at q0 q1 q2 q3 o1 o2 hs'
        obtain ⟨gh, gr, gc, gq⟩ := g
        dsimp only at q0 q1 q2 q3 o1 o2 hs'
        have HO : Hid (gc < 0 ∨ 9223372036854775807 < t + gc) := hs'
        clear hs'
        go_wp2_with fail
        refine (add_no t gc _ ht0 ht1 o1 o2 HO.out).mono ?_
        rintro e w1 ⟨rfl, rfl⟩
        go_wp2
        go_ret2
        exact ⟨ret_sum (by rw [HS.out]; rfl) (by rw [HS.out]; rfl), hbel.alloc hsz _⟩
    · have HS : Hid (r = some t) := by
        rw [HR.out, ← HT.out, List.take_of_length_le (by rw [HN.out]; omega)]; rfl
      go_wp2
      go_ret2
      exact ⟨ret_sum (by rw [HS.out]; rfl) (by rw [HS.out]; rfl), hbel⟩

set_option maxHeartbeats 400000 in
theorem toPlanGrant (h r : ByteArray) (c q : Int) (w : World) :
    Calls Try.prog 11 #[.agg #[.string h, .string r, .int .i64 c, .int .i64 q]] w fun e w' => e = .returned (.agg #[.string h, .string r, .int .i64 c, .int .i64 q]) ∧ Below w.heap.size w w' := by
  go_enter Try.func11, Try.ntmps11
  go_wp2
  refine bodyPost_ret (v := .agg #[.string h, .string r, .int .i64 c, .int .i64 q]) (by simp [results, Try.results11, go_sem]) rfl ⟨rfl, ?_⟩
  exact ((Below.refl _ _).alloc (Nat.le_refl _) _).alloc (by simp) _

theorem one_cells (w : World) (g : Gr) : Gs (w.alloc (.cells #[.string g.holder, .string g.role, .int .i64 g.head, .int .i64 g.qty] 31)) (some ⟨w.heap.size, 0, none⟩) 1 [g] := by
  refine ⟨rfl, fun j hj => ?_⟩
  obtain rfl : j = 0 := by simp at hj; omega
  refine ⟨w.heap.size, 0, rfl, ?_, ?_, ?_, ?_⟩
  · exact cell_of_row _ w.heap.size 0 _ 31 (0, 0) (heap_alloc_new w _)
  · exact cell_of_row _ w.heap.size 1 _ 31 (0, 0) (heap_alloc_new w _)
  · exact cell_of_row _ w.heap.size 2 _ 31 (0, 0) (heap_alloc_new w _)
  · exact cell_of_row _ w.heap.size 3 _ 31 (0, 0) (heap_alloc_new w _)

theorem sum_one (g : Gr) (h1 : g.head ≤ 9223372036854775807) : sumFrom 0 (heads [g]) = if g.head < 0 then none else some g.head := by
  show (if g.head < 0 ∨ 9223372036854775807 < 0 + g.head then none else some (0 + g.head)) = _
  by_cases h : g.head < 0
  · rw [if_pos (.inl h), if_pos h]
  · rw [if_neg (by omega), if_neg h, Int.zero_add]

/-- SumHeadcounts of a slice of one grant, just laid behind a block. -/
theorem sum_single (g : Gr) (w : World) (C : Array Value) (h0 : -9223372036854775808 ≤ g.head) (h1 : g.head ≤ 9223372036854775807) :
    Calls Try.prog 8 #[.slice (some ⟨w.heap.size + 1, 0, none⟩) 1 1] ((w.alloc (.cells C 31)).alloc (.cells #[.string g.holder, .string g.role, .int .i64 g.head, .int .i64 g.qty] 31)) fun e w' =>
      e = .returned (.tuple #[.int .i64 ((if g.head < 0 then none else some g.head : Option Int).getD 0), .bool (if g.head < 0 then none else some g.head : Option Int).isSome]) ∧ w'.heap[w.heap.size]? = some (.cells C 31 (0, 0)) ∧ Below w.heap.size w w' := by
  have hok : Ok [g] := by
    intro x hx
    simp at hx
    subst hx
    exact ⟨h0, h1⟩
  have hG := one_cells (w.alloc (.cells C 31)) g
  have hs : (w.alloc (.cells C 31)).heap.size = w.heap.size + 1 := by simp
  rw [hs] at hG
  have hb : Below w.heap.size w ((w.alloc (.cells C 31)).alloc (.cells #[.string g.holder, .string g.role, .int .i64 g.head, .int .i64 g.qty] 31)) := ((Below.refl _ _).alloc (Nat.le_refl _) _).alloc (by simp) _
  refine (sumHeadcounts _ 1 1 [g] _ hG hok (fun a ha _ => by rw [← Option.some.inj ha]; simp) (by omega)).mono ?_
  rintro e w' ⟨rfl, hb'⟩
  refine ⟨by rw [sum_one g h1], ?_, hb.trans (hb'.mono (by simp; omega))⟩
  rw [hb'.block w.heap.size (by simp; omega), Below.heap_alloc _ _ _ (by simp)]
  exact heap_alloc_new w _

set_option maxHeartbeats 1000000 in
theorem oneGrantRight (g : Gr) (w : World) (h0 : -9223372036854775808 ≤ g.head) (h1 : g.head ≤ 9223372036854775807) :
    Calls Try.prog 9 #[.agg #[.string g.holder, .string g.role, .int .i64 g.head, .int .i64 g.qty]] w fun e w' => e = .returned (.bool true) ∧ Below w.heap.size w w' := by
  have hS := sum_single g w #[.string g.holder, .string g.role, .int .i64 g.head, .int .i64 g.qty] h0 h1
  obtain ⟨gh, gr, gc, gq⟩ := g
  dsimp only at h0 h1 hS ⊢
  by_cases hneg : gc < 0
  · rw [if_pos hneg] at hS
    go_enter Try.func9, Try.ntmps9
    go_wp2_with fail
    refine hS.mono ?_
    rintro e w2 ⟨rfl, hb2, hbel⟩
    have c2 : w2.cell? ⟨w.heap.size, 2, none⟩ = some (.int .i64 gc) := cell_of_row _ w.heap.size 2 _ 31 (0, 0) hb2
    clear hb2 hS
    go_wp2
    go_ret
    exact ⟨rfl, hbel⟩
  · rw [if_neg hneg] at hS
    have hneg' : 0 ≤ gc := by omega
    go_enter Try.func9, Try.ntmps9
    go_wp2_with fail
    refine hS.mono ?_
    rintro e w2 ⟨rfl, hb2, hbel⟩
    have c2 : w2.cell? ⟨w.heap.size, 2, none⟩ = some (.int .i64 gc) := cell_of_row _ w.heap.size 2 _ 31 (0, 0) hb2
    clear hb2 hS
    go_wp2
    go_ret
    exact ⟨rfl, hbel⟩

end Go.Proofs.Qxb6608826a
