/-
  THE WALK OF toTxns.
-/
import Derived.Test.Qxb6608741aCloneW
namespace Go.Proofs.Qxb6608741a
open Go Go.RowKit

theorem Try.info72 : (Try.prog.info? 72).map (fun i => (i.zero, i.size, i.bytes)) = some (some (.agg #[.int .u64 0, .int .u64 0]), 2, 16) := by kernel_rfl

/-- The first k pairs lie in the cells xs. -/
def Laid (xs : List Value) (t : List (Nat × Nat)) (k : Nat) : Prop := ∀ j (h : j < t.length), j < k → xs[j * 2]? = some (.int .u64 (t[j]).1) ∧ xs[j * 2 + 1]? = some (.int .u64 (t[j]).2)

theorem Laid.next {xs : List Value} {t : List (Nat × Nat)} {k : Nat} (h : Laid xs t k) (hk : k < t.length) (hx : t.length * 2 ≤ xs.length) : Laid ((xs.set (k * 2) (.int .u64 (t[k]).1)).set (k * 2 + 1) (.int .u64 (t[k]).2)) t (k + 1) := by
  intro j hj hjk
  rcases Nat.lt_or_ge j k with hlt | hge
  · obtain ⟨a, b⟩ := h j hj hlt
    constructor
    · rw [List.getElem?_set_ne (by omega), List.getElem?_set_ne (by omega)]; exact a
    · rw [List.getElem?_set_ne (by omega), List.getElem?_set_ne (by omega)]; exact b
  · obtain rfl : j = k := by omega
    constructor
    · rw [List.getElem?_set_ne (by omega), List.getElem?_set_self (by omega)]
    · rw [List.getElem?_set_self (by simp; omega)]

theorem some_block (g : Nat) (q : Prop) (hq : q) : ∀ a : Addr, some (⟨g, 0, none⟩ : Addr) = some a → a.block = g ∧ q := fun a h => by rw [← Option.some.inj h]; exact ⟨rfl, hq⟩

set_option maxHeartbeats 400000 in
theorem toTxns (ao : Option Addr) (n c : Nat) (t : List (Nat × Nat)) (w : World) (hb : Tx w ao n t) (hA : ∀ a : Addr, ao = some a → 0 < n → a.block < w.heap.size) (hn : n ≤ 1048576) :
    Calls Try.prog 12 #[.slice ao n c] w fun e w' => ∃ bo d, e = .returned (.slice bo n d) ∧ Tx w' bo n t ∧ (∀ a : Addr, bo = some a → a.block = w.heap.size ∧ w.heap.size < w'.heap.size) ∧ w.heap.size ≤ w'.heap.size ∧ Below w.heap.size w w' := by
  have hq := fun (wx : World) => Lib.run_eql_slice_nil (P := Try.prog) wx 23 28 ao n c 0 0 Try.underlying23
  obtain ⟨i0, hi, hz0, hz1, hz2⟩ := info_parts Try.info72
  have HN : Hid (t.length = n) := hb.len
  cases ao with
  | none =>
    have hl0 : t = [] := by
      match t, hb with
      | [], _ => rfl
      | x :: r, hb => obtain ⟨_, _, e, _⟩ := hb.cell 0 (by simp); cases e
    have hn0 : n = 0 := by have := HN.out; rw [hl0] at this; simpa using this.symm
    subst hl0; subst hn0
    clear HN hb
    go_enter Try.func12, Try.ntmps12
    go_wp2
    go_ret
    exact ⟨_, _, rfl, ⟨rfl, fun j h => absurd h (by simp)⟩, (fun a h => by cases h), Nat.le_refl _, Below.refl _ _⟩
  | some a =>
    go_enter Try.func12, Try.ntmps12
    go_wp2_with (at_make; refine wpList_make_full _ rfl _ _ 32 rfl w.heap.size 72 i0 (.agg #[.int .u64 0, .int .u64 0]) 2 Try.underlying32 hi hz0 hz1 _ _ _ _ n rfl rfl (by omega) (by omega) (by rw [hz2]; omega) (by unfold maxLen; omega) (Nat.le_refl _) ?_)
    intro w1 hown1 hgrow1
    have hbel1 : Below w.heap.size w w1 := (Below.refl _ _).grown hgrow1 (Nat.le_refl _) (fun k hk => by cases hk)
    clear hgrow1
    go_wp2
    go_loopw [4] (fun vi wr => ∃ (k : Nat) (xs : List Value), vi = .int .i64 k ∧ k ≤ n ∧ wr.ownsRow w.heap.size 72 2 (.slice (some ⟨w.heap.size, 0, none⟩) n n) n xs ∧ Laid xs t k ∧ Below w.heap.size w wr) (fun vi _ => n - (intOf vi).toNat)
    case atStart => exact ⟨0, _, rfl, Nat.zero_le _, hown1, fun j _ h => by omega, hbel1⟩
    case round =>
      obtain ⟨k, xs, rfl, hk, hown, hlaid, hbel⟩ := hrel
      by_cases hlt : k < n
      · have hk1 : k < t.length := by rw [HN.out]; exact hlt
        obtain ⟨b1, o1, e1, c1, c2⟩ := hb.cell k hk1
        have hb1 := hA ⟨b1, o1, none⟩ e1 (by omega)
        have q1 := (hbel.cell (p := ⟨b1, o1 + k * 2, none⟩) hb1).trans c1
        have q2 := (hbel.cell (p := ⟨b1, o1 + k * 2 + 1, none⟩) hb1).trans c2
        have hxl : xs.length = n * 2 := hown.1
        obtain ⟨x1, d1⟩ : ∃ x1, wr.cell? ⟨w.heap.size, k * 2, none⟩ = some x1 := ⟨_, (hown.cellAt (k * 2) (by omega)).trans (List.getElem?_eq_getElem (by omega))⟩
        obtain ⟨x2, d2⟩ : ∃ x2, wr.cell? ⟨w.heap.size, k * 2 + 1, none⟩ = some x2 := ⟨_, (hown.cellAt (k * 2 + 1) (by omega)).trans (List.getElem?_eq_getElem (by omega))⟩
        have f1 := hown.frozenAt (k * 2)
        have f2 := hown.frozenAt (k * 2 + 1)
        obtain ⟨hownA, hgrowA⟩ := hown.stored (k * 2) (.int .u64 (t[k]).1)
        obtain ⟨hownB, hgrowB⟩ := hownA.stored (k * 2 + 1) (.int .u64 (t[k]).2)
        have hlaid2 := hlaid.next hk1 (by rw [HN.out]; omega)
        have hbelA : Below w.heap.size w _ := hbel.grown hgrowA hbel.size (fun j hj => by injection hj with e; omega)
        have hbelB : Below w.heap.size w _ := hbelA.grown hgrowB hbelA.size (fun j hj => by injection hj with e; omega)
        have HNX : Hid (t.length * 2 ≤ xs.length) := by show _ ≤ _; rw [HN.out]; omega
        injection e1 with e1
        subst e1
        clear c1 c2 hgrowA hgrowB hownA hbelA hown hlaid hbel hxl
        generalize t[k] = p at q1 q2 hownB hlaid2 hbelB
        obtain ⟨pa, pb⟩ := p
        dsimp only at q1 q2 hownB hlaid2 hbelB
        have i1 : (k : Int) < (n : Int) := by omega
        go_wp2
        go_region
        go_wp2
        go_roundw
        case rel => exact ⟨k + 1, _, by go_num, by omega, hownB.drew, hlaid2, hbelB.drew⟩
        case measure => simp [intOf]; omega
      · obtain rfl : k = n := by omega
        have hT : Tx wr (some ⟨w.heap.size, 0, none⟩) k t := by
          refine ⟨HN.out, fun j hj => ?_⟩
          have hjk : j < k := by rw [← HN.out]; exact hj
          obtain ⟨x1, x2⟩ := hlaid j hj hjk
          refine ⟨w.heap.size, 0, rfl, ?_, ?_⟩
          · rw [Nat.zero_add]; exact (hown.cellAt (j * 2) (by omega)).trans x1
          · rw [Nat.zero_add]; exact (hown.cellAt (j * 2 + 1) (by omega)).trans x2
        have hs := hbel.size
        have hl : Hid (w.heap.size < wr.heap.size) := (hown.lt _ rfl).2
        clear hown hlaid hown1
        go_wp2
        go_ret
        exact ⟨_, _, rfl, hT, some_block _ _ hl.out, hs, hbel⟩

end Go.Proofs.Qxb6608741a
