/-
  THE WALKS OF cloneBytes AND toTxns.
-/
import Derived.Test.Qxb6608741aMakeW
namespace Go.Proofs.Qxb6608741a
open Go Go.RowKit

/-- k bytes copied, the rest still zero. -/
def half (l : List UInt8) (k : Nat) : List Value := Lib.byteCells (l.take k) ++ List.replicate (l.length - k) (.int .u8 0)

theorem half_zero (l : List UInt8) : half l 0 = List.replicate l.length (.int .u8 0) := by simp [half, Lib.byteCells]
theorem half_full (l : List UInt8) : half l l.length = Lib.byteCells l := by simp [half]
theorem half_at (l : List UInt8) (k : Nat) (h : k < l.length) : (half l k)[k]? = some (.int .u8 0) := by
  have hl : (Lib.byteCells (l.take k)).length = k := by rw [byteCells_length, List.length_take]; omega
  rw [half, List.getElem?_append_right (by omega), hl]
  simp [List.getElem?_replicate]; omega
theorem half_set (l : List UInt8) (k : Nat) (h : k < l.length) : (half l k).set k (.int .u8 (l[k]).toNat) = half l (k + 1) := by
  have hl : (Lib.byteCells (l.take k)).length = k := by rw [byteCells_length, List.length_take]; omega
  have e : l.length - k = (l.length - (k + 1)) + 1 := by omega
  rw [half, half, List.set_append_right _ _ (by omega), hl, byteCells_take_succ l k h, e, List.replicate_succ]
  simp

set_option maxHeartbeats 400000 in
theorem cloneBytes (ao : Option Addr) (n c : Nat) (l : List UInt8) (w : World) (hb : Bs w ao n l) (hA : ∀ a : Addr, ao = some a → 0 < n → a.block < w.heap.size) (hn : n ≤ 140737488355328) :
    Calls Try.prog 9 #[.slice ao n c] w fun e w' => ∃ v', e = .returned v' ∧ w'.ownsRow w.heap.size 5 1 v' n (Lib.byteCells l) ∧ Below w.heap.size w w' := by
  have hq := fun (wx : World) => Lib.run_eql_slice_nil (P := Try.prog) wx 22 5 ao n c 0 0 Try.underlying22
  obtain ⟨i0, hi, hz0, hz1, hz2⟩ := info_parts Try.info5
  have HN : Hid (l.length = n) := hb.len
  cases ao with
  | none =>
    have hl0 : l = [] := by
      match l, hb with
      | [], _ => rfl
      | x :: r, hb => obtain ⟨_, _, e, _⟩ := hb.cell 0 (by simp); cases e
    have hn0 : n = 0 := by have := HN.out; rw [hl0] at this; simpa using this.symm
    subst hl0; subst hn0
    clear HN
    go_enter Try.func9, Try.ntmps9
    go_wp2
    go_ret
    exact ⟨_, rfl, World.ownsRow_nil _ _ _ _, Below.refl _ _⟩
  | some a =>
    go_enter Try.func9, Try.ntmps9
    go_wp2_with (at_make; refine wpList_make_full _ rfl _ _ 22 rfl w.heap.size 5 i0 (.int .u8 0) 1 Try.underlying22 hi hz0 hz1 _ _ _ _ n rfl rfl (by omega) (by omega) (by rw [hz2]; omega) (by unfold maxLen; omega) (Nat.le_refl _) ?_)
    intro w1 hown1 hgrow1
    have hbel1 : Below w.heap.size w w1 := (Below.refl _ _).grown hgrow1 (Nat.le_refl _) (fun k hk => by cases hk)
    clear hgrow1
    go_wp2
    go_loopw [4] (fun vi wr => ∃ (k : Nat), vi = .int .i64 k ∧ k ≤ n ∧ wr.ownsRow w.heap.size 5 1 (.slice (some ⟨w.heap.size, 0, none⟩) n n) n (half l k) ∧ Below w.heap.size w wr) (fun vi _ => n - (intOf vi).toNat)
    case atStart =>
      refine ⟨0, rfl, Nat.zero_le _, ?_, hbel1⟩
      rw [half_zero, HN.out]
      have e := toList_madeCells_one (.int .u8 0) n
      simpa [Value.cells, e] using hown1
    case round =>
      obtain ⟨k, rfl, hk, hown, hbel⟩ := hrel
      by_cases hlt : k < n
      · have hk1 : k < l.length := by rw [HN.out]; exact hlt
        obtain ⟨b1, o1, e1, c1⟩ := hb.cell k hk1
        have c2 := (hbel.cell (p := ⟨b1, o1 + k, none⟩) (hA ⟨b1, o1, none⟩ e1 (by omega))).trans c1
        have d1 := (hown.cellAt k (by omega)).trans (half_at l k hk1)
        have d2 := hown.frozenAt k
        have hst := hown.stored k (.int .u8 (l[k]).toNat)
        rw [half_set l k hk1] at hst
        obtain ⟨hown2, hgrow2⟩ := hst
        have hbel2 : Below w.heap.size w _ := hbel.grown hgrow2 hbel.size (fun j hj => by injection hj with e; omega)
        generalize l[k] = u at c2 hown2 hbel2
        injection e1 with e1
        subst e1
        clear c1 hgrow2 hown hbel
        go_wp2
        go_roundw
        case rel => exact ⟨k + 1, by go_num, by omega, hown2, hbel2⟩
        case measure => simp [intOf]; omega
      · obtain rfl : k = n := by omega
        rw [← HN.out, half_full, HN.out] at hown
        go_wp2
        go_ret
        exact ⟨_, rfl, hown, hbel⟩

end Go.Proofs.Qxb6608741a
