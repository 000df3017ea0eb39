/-
  THE WALKS OF WHAT MAKES NEW SLICES: cloneBytes, joinBytes, toTxns.
-/
import Derived.Test.Qxb6608741aScanW
namespace Go.Proofs.Qxb6608741a
open Go Go.RowKit

theorem byteCells_get (l : List UInt8) (k : Nat) (h : k < l.length) : (Lib.byteCells l)[k]? = some (.int .u8 (l[k]).toNat) := by
  simp [Lib.byteCells, h]

theorem byteCells_length (l : List UInt8) : (Lib.byteCells l).length = l.length := by simp [Lib.byteCells]

/-- What is owned reads as bytes. -/
theorem Bs.of_own {w : World} {B : Nat} {ao : Option Addr} {n c : Nat} {l : List UInt8} (h : w.ownsRow B 5 1 (.slice ao n c) n (Lib.byteCells l)) : Bs w ao n l := by
  have hlen : l.length = n := by have := h.1; rw [byteCells_length] at this; omega
  refine ⟨hlen, fun j hj => ?_⟩
  rcases h.2 with ⟨e, h0⟩ | ⟨g, cap, cur, e, _⟩
  · omega
  · injection e with e1 e2 e3
    subst e1
    refine ⟨g, 0, rfl, ?_⟩
    have := h.cells (g := g) rfl j _ (byteCells_get l j hj)
    rw [Addr.add_lit] at this
    exact this

theorem byteCells_take_succ (l : List UInt8) (k : Nat) (h : k < l.length) : Lib.byteCells (l.take (k + 1)) = Lib.byteCells (l.take k) ++ [.int .u8 (l[k]).toNat] := by
  rw [List.take_succ_eq_append_getElem h, Lib.byteCells_append]; rfl

theorem one_new (v : Value) (h : v.oneCell' = true) : ∀ u ∈ [v], u.oneCell' = true := by
  intro u hu; simp at hu; subst hu; exact h

set_option maxHeartbeats 1000000 in
theorem joinBytes (ao bo : Option Addr) (n c m d : Nat) (la lb : List UInt8) (w : World) (ha : Bs w ao n la) (hb : Bs w bo m lb) (hA : ∀ a : Addr, ao = some a → a.block < w.heap.size) (hB : ∀ a : Addr, bo = some a → a.block < w.heap.size) (hn : n + m ≤ 140737488355328) :
    Calls Try.prog 19 #[.slice ao n c, .slice bo m d] w fun e w' => ∃ g cap, e = .returned (.slice (some ⟨g, 0, none⟩) (n + m) cap) ∧ w'.ownsRow w.heap.size 5 1 (.slice (some ⟨g, 0, none⟩) (n + m) cap) (n + m) (Lib.byteCells (la ++ lb)) ∧ Below w.heap.size w w' := by
  obtain ⟨i0, hi, hz0, hz1, hz2⟩ := info_parts Try.info5
  have HN : Hid (la.length = n) := ha.len
  have HM : Hid (lb.length = m) := hb.len
  go_enter Try.func19, Try.ntmps19
  go_wp2_with (at_make; refine wpList_make_own _ rfl _ _ 22 rfl w.heap.size 5 i0 (.int .u8 0) 1 Try.underlying22 hi hz0 hz1 _ _ _ (n + m) rfl rfl (by omega) (by rw [hz2]; omega) (by unfold maxLen; omega) (Nat.le_refl _) ?_)
  intro w1 hown1 hgrow1
  have hbel1 : Below w.heap.size w w1 := (Below.refl _ _).grown hgrow1 (Nat.le_refl _) (fun k hk => by cases hk)
  clear hgrow1
  go_wp2
  go_loopw [5, 6] (fun vc vi wr => ∃ (k : Nat), vi = .int .i64 k ∧ k ≤ n ∧ vc = .slice (some ⟨w.heap.size, 0, none⟩) k (n + m) ∧ wr.ownsRow w.heap.size 5 1 (.slice (some ⟨w.heap.size, 0, none⟩) k (n + m)) k (Lib.byteCells (la.take k)) ∧ Below w.heap.size w wr) (fun _ vi _ => n - (intOf vi).toNat)
  case atStart => exact ⟨0, rfl, Nat.zero_le _, rfl, by simpa [Lib.byteCells] using hown1, hbel1⟩
  case round =>
    obtain ⟨k, rfl, hk, rfl, hown, hbel⟩ := hrel
    have hsz := hbel.size
    by_cases hlt : k < n
    · have hk1 : k < la.length := by rw [HN.out]; exact hlt
      obtain ⟨b1, o1, e1, c1⟩ := ha.cell k hk1
      have c2 := (hbel.cell (p := ⟨b1, o1 + k, none⟩) (hA ⟨b1, o1, none⟩ e1)).trans c1
      have HT : Hid (Lib.byteCells (la.take (k + 1)) = Lib.byteCells (la.take k) ++ [.int .u8 (la[k]).toNat]) := byteCells_take_succ la k hk1
      generalize la[k] = u at c2 HT
      subst e1
      clear c1
      go_wp2_with (at_builtin; refine wpList_append_fits _ rfl _ _ 22 rfl w.heap.size 5 i0 1 Try.underlying22 hi hz1 w.heap.size k (n + m) _ rfl (hown.alloc _) ⟨wr.heap.size, 0, none⟩ 1 1 [Value.int .u8 (u.toNat : Int)] rfl rfl ?c1 ?c2 ?c3 ?_)
      case c1 => exact cell_one_new _ _ _
      case c2 => exact one_new _ rfl
      case c3 => omega
      intro w2 hown2 hgrow2
      have hbel2 : Below w.heap.size w w2 := (hbel.alloc hsz _).grown hgrow2 (by simp; omega) (fun j hj => by injection hj with e; omega)
      rw [← HT.out] at hown2
      clear hgrow2 hown hbel
      go_wp2
      go_roundw
      case rel => exact ⟨k + 1, by go_num, by omega, rfl, hown2, hbel2⟩
      case measure => simp [intOf]; omega
    · obtain rfl : k = n := by omega
      rw [List.take_of_length_le (by rw [HN.out]; exact Nat.le_refl _)] at hown
      clear hown1 hbel1
      go_wp2
      go_loopw [5, 7] (fun vc vi wq => ∃ (j : Nat), vi = .int .i64 j ∧ j ≤ m ∧ vc = .slice (some ⟨w.heap.size, 0, none⟩) (k + j) (k + m) ∧ wq.ownsRow w.heap.size 5 1 (.slice (some ⟨w.heap.size, 0, none⟩) (k + j) (k + m)) (k + j) (Lib.byteCells (la ++ lb.take j)) ∧ Below w.heap.size w wq) (fun _ vi _ => m - (intOf vi).toNat)
      case atStart => exact ⟨0, rfl, Nat.zero_le _, rfl, by simpa using hown, hbel⟩
      case round =>
        clear hown hbel
        obtain ⟨j, rfl, hj, rfl, hown, hbel⟩ := hrel
        have hsz2 := hbel.size
        by_cases hlt2 : j < m
        · have hk1 : j < lb.length := by rw [HM.out]; exact hlt2
          obtain ⟨b1, o1, e1, c1⟩ := hb.cell j hk1
          have c2 := (hbel.cell (p := ⟨b1, o1 + j, none⟩) (hB ⟨b1, o1, none⟩ e1)).trans c1
          have HT : Hid (Lib.byteCells (la ++ lb.take (j + 1)) = Lib.byteCells (la ++ lb.take j) ++ [.int .u8 (lb[j]).toNat]) := by
            show _ = _
            rw [Lib.byteCells_append, byteCells_take_succ lb j hk1, Lib.byteCells_append, List.append_assoc]
          generalize lb[j] = u at c2 HT
          subst e1
          clear c1
          go_wp2_with (at_builtin; refine wpList_append_fits _ rfl _ _ 22 rfl w.heap.size 5 i0 1 Try.underlying22 hi hz1 w.heap.size (k + j) (k + m) _ rfl (hown.alloc _) ⟨_, 0, none⟩ 1 1 [Value.int .u8 (u.toNat : Int)] rfl rfl ?d1 ?d2 ?d3 ?_)
          case d1 => exact cell_one_new _ _ _
          case d2 => exact one_new _ rfl
          case d3 => omega
          intro w2 hown2 hgrow2
          have hbel2 : Below w.heap.size w w2 := (hbel.alloc hsz2 _).grown hgrow2 (by simp; omega) (fun j hj => by injection hj with e; omega)
          rw [← HT.out] at hown2
          clear hgrow2 hown hbel
          go_wp2
          go_roundw
          case rel => exact ⟨j + 1, by go_num, by omega, rfl, hown2, hbel2⟩
          case measure => simp [intOf]; omega
        · obtain rfl : j = m := by omega
          rw [List.take_of_length_le (by rw [HM.out]; exact Nat.le_refl _)] at hown
          go_wp2
          go_ret
          exact ⟨_, _, rfl, hown, hbel⟩

end Go.Proofs.Qxb6608741a
