/-
  THE WALK OF toPlan.
-/
import Derived.Test.Qxb6608826aGuardW
namespace Go.Proofs.Qxb6608826a
open Go Go.RowKit

theorem Try.info31 : (Try.prog.info? 31).map (fun i => (i.zero, i.size, i.bytes)) = some (some (.agg #[.string ⟨#[]⟩, .string ⟨#[]⟩, .int .i64 0, .int .i64 0]), 4, 48) := by kernel_rfl

/-- A grant's cells. -/
def cells1 (g : Gr) : List Value := [.string g.holder, .string g.role, .int .i64 g.head, .int .i64 g.qty]
def gCells (l : List Gr) : List Value := l.flatMap cells1

theorem gCells_append (a b : List Gr) : gCells (a ++ b) = gCells a ++ gCells b := by simp [gCells, List.flatMap_append]
theorem gCells_length (l : List Gr) : (gCells l).length = l.length * 4 := by
  induction l with
  | nil => rfl
  | cons g r ih =>
    have e : gCells (g :: r) = cells1 g ++ gCells r := rfl
    rw [e, List.length_append, ih, List.length_cons]
    simp only [cells1, List.length_cons, List.length_nil]
    omega

theorem gCells_get (l : List Gr) : ∀ (j : Nat) (h : j < l.length), (gCells l)[j * 4]? = some (.string (l[j]).holder) ∧ (gCells l)[j * 4 + 1]? = some (.string (l[j]).role) ∧ (gCells l)[j * 4 + 1 + 1]? = some (.int .i64 (l[j]).head) ∧ (gCells l)[j * 4 + 1 + 1 + 1]? = some (.int .i64 (l[j]).qty) := by
  induction l with
  | nil => intro j h; simp at h
  | cons g r ih =>
    intro j h
    cases j with
    | zero => exact ⟨rfl, rfl, rfl, rfl⟩
    | succ j =>
      have := ih j (by simpa using h)
      have e : gCells (g :: r) = .string g.holder :: .string g.role :: .int .i64 g.head :: .int .i64 g.qty :: gCells r := rfl
      rw [e, show (j + 1) * 4 = j * 4 + 1 + 1 + 1 + 1 by omega]
      simpa using this

theorem gCells_one (l : List Gr) : ∀ u ∈ gCells l, u.oneCell' = true := by
  intro u hu
  obtain ⟨g, _, hg⟩ := List.mem_flatMap.1 hu
  simp only [cells1, List.mem_cons, List.not_mem_nil, or_false] at hg
  rcases hg with rfl | rfl | rfl | rfl <;> rfl

/-- What the call owns reads as grants. -/
theorem Gs.of_own {w : World} {B g n cap : Nat} {l : List Gr} (h : w.ownsRow B 31 4 (.slice (some ⟨g, 0, none⟩) n cap) n (gCells l)) (hn : l.length = n) : Gs w (some ⟨g, 0, none⟩) n l := by
  refine ⟨hn, fun j hj => ?_⟩
  obtain ⟨a, b, c, d⟩ := gCells_get l j hj
  refine ⟨g, 0, rfl, ?_, ?_, ?_, ?_⟩
  · rw [Nat.zero_add]; exact (h.cellAt (j * 4) (by omega)).trans a
  · rw [Nat.zero_add]; exact (h.cellAt (j * 4 + 1) (by omega)).trans b
  · rw [Nat.zero_add]; exact (h.cellAt (j * 4 + 1 + 1) (by omega)).trans c
  · rw [Nat.zero_add]; exact (h.cellAt (j * 4 + 1 + 1 + 1) (by omega)).trans d

/-- The first k grants lie in the cells xs. -/
def Laid (xs : List Value) (l : List Gr) (k : Nat) : Prop := xs.take (k * 4) = gCells (l.take k)

theorem set4 (xs : List Value) (k : Nat) (a b c d : Value) (h : k * 4 + 4 ≤ xs.length) :
    ((((xs.set (k * 4) a).set (k * 4 + 1) b).set (k * 4 + 1 + 1) c).set (k * 4 + 1 + 1 + 1) d).take ((k + 1) * 4) = xs.take (k * 4) ++ [a, b, c, d] := by
  apply List.ext_getElem?
  intro i
  rw [List.getElem?_take]
  by_cases hi : i < (k + 1) * 4
  · rw [if_pos hi]
    by_cases hlt : i < k * 4
    · rw [List.getElem?_set_ne (by omega), List.getElem?_set_ne (by omega), List.getElem?_set_ne (by omega), List.getElem?_set_ne (by omega), List.getElem?_append_left (by rw [List.length_take]; omega), List.getElem?_take, if_pos hlt]
    · rw [List.getElem?_append_right (by rw [List.length_take]; omega), List.length_take, show min (k * 4) xs.length = k * 4 by omega]
      have : i = k * 4 ∨ i = k * 4 + 1 ∨ i = k * 4 + 1 + 1 ∨ i = k * 4 + 1 + 1 + 1 := by omega
      rcases this with rfl | rfl | rfl | rfl
      · rw [List.getElem?_set_ne (by omega), List.getElem?_set_ne (by omega), List.getElem?_set_ne (by omega), List.getElem?_set_self (by omega), show k * 4 - k * 4 = 0 by omega]; rfl
      · rw [List.getElem?_set_ne (by omega), List.getElem?_set_ne (by omega), List.getElem?_set_self (by simp; omega), show k * 4 + 1 - k * 4 = 1 by omega]; rfl
      · rw [List.getElem?_set_ne (by omega), List.getElem?_set_self (by simp; omega), show k * 4 + 1 + 1 - k * 4 = 2 by omega]; rfl
      · rw [List.getElem?_set_self (by simp; omega), show k * 4 + 1 + 1 + 1 - k * 4 = 3 by omega]; rfl
  · rw [if_neg hi]
    symm
    rw [List.getElem?_eq_none_iff]
    simp only [List.length_append, List.length_take, List.length_cons, List.length_nil]
    omega

theorem Laid.next {xs : List Value} {l : List Gr} {k : Nat} (h : Laid xs l k) (hk : k < l.length) (hx : l.length * 4 ≤ xs.length) :
    Laid ((((xs.set (k * 4) (.string (l[k]).holder)).set (k * 4 + 1) (.string (l[k]).role)).set (k * 4 + 1 + 1) (.int .i64 (l[k]).head)).set (k * 4 + 1 + 1 + 1) (.int .i64 (l[k]).qty)) l (k + 1) := by
  unfold Laid at h ⊢
  rw [set4 _ _ _ _ _ _ (by omega), h, List.take_succ_eq_append_getElem hk, gCells_append]
  rfl

theorem some_block (g : Nat) : ∀ a : Addr, some (⟨g, 0, none⟩ : Addr) = some a → a.block = g := fun a h => by rw [← Option.some.inj h]

set_option maxHeartbeats 1000000 in
theorem toPlan_some (a : Addr) (n c : Nat) (l : List Gr) (w : World) (hg : Gs w (some a) n l) (hA : 0 < n → a.block < w.heap.size) (hn : n ≤ 1048576) :
    Calls Try.prog 7 #[.slice (some a) n c] w fun e w' => e = .returned (.slice (some ⟨w.heap.size, 0, none⟩) n n) ∧ w'.ownsRow w.heap.size 31 4 (.slice (some ⟨w.heap.size, 0, none⟩) n n) n (gCells l) ∧ Below w.heap.size w w' := by
  have hq := fun (wx : World) => Lib.run_eql_slice_nil (P := Try.prog) wx 22 33 (some a) n c 0 0 Try.underlying22
  obtain ⟨i0, hi, hz0, hz1, hz2⟩ := info_parts Try.info31
  have HN : Hid (l.length = n) := hg.len
  go_enter Try.func7, Try.ntmps7
  go_wp2_with (at_make; refine wpList_make_full _ rfl _ _ 24 rfl w.heap.size 31 i0 (.agg #[.string ⟨#[]⟩, .string ⟨#[]⟩, .int .i64 0, .int .i64 0]) 4 Try.underlying24 hi hz0 hz1 _ _ _ _ n rfl rfl (by omega) (by omega) (by rw [hz2]; omega) (by unfold maxLen; omega) (Nat.le_refl _) ?_)
  intro w1 hown1 hgrow1
  have hbel1 : Below w.heap.size w w1 := (Below.refl _ _).grown hgrow1 (Nat.le_refl _) (fun k hk => by cases hk)
  clear hgrow1
  go_wp2
  go_loopw [4] (fun vi wr => ∃ (k : Nat) (xs : List Value), vi = .int .i64 k ∧ k ≤ n ∧ wr.ownsRow w.heap.size 31 4 (.slice (some ⟨w.heap.size, 0, none⟩) n n) n xs ∧ Laid xs l k ∧ Below w.heap.size w wr) (fun vi _ => n - (intOf vi).toNat)
  case atStart => exact ⟨0, _, rfl, Nat.zero_le _, hown1, rfl, hbel1⟩
  case round =>
    obtain ⟨k, xs, rfl, hk, hown, hlaid, hbel⟩ := hrel
    by_cases hlt : k < n
    · have hk1 : k < l.length := by rw [HN.out]; exact hlt
      obtain ⟨b1, o1, e1, c0, c1, c2, c3⟩ := hg.cell k hk1
      have hb1 : b1 < w.heap.size := by have := hA (by omega); rw [Option.some.inj e1] at this; exact this
      have q0 := (hbel.cell (p := ⟨b1, o1 + k * 4, none⟩) hb1).trans c0
      have q1 := (hbel.cell (p := ⟨b1, o1 + k * 4 + 1, none⟩) hb1).trans c1
      have q2 := (hbel.cell (p := ⟨b1, o1 + k * 4 + 1 + 1, none⟩) hb1).trans c2
      have q3 := (hbel.cell (p := ⟨b1, o1 + k * 4 + 1 + 1 + 1, none⟩) hb1).trans c3
      have hlaid2 := hlaid.next hk1 (by rw [HN.out, hown.1]; omega)
      generalize l[k] = g at q0 q1 q2 q3 hlaid2
      obtain ⟨gh, gr, gc, gq⟩ := g
      dsimp only at q0 q1 q2 q3 hlaid2
      have e1 := Option.some.inj e1
      subst e1
      clear c0 c1 c2 c3 hlaid
      go_wp2_with fail
      refine (toPlanGrant gh gr gc gq _).mono ?_
      rintro e w2 ⟨rfl, hb2⟩
      have hown2 : w2.ownsRow w.heap.size 31 4 (.slice (some ⟨w.heap.size, 0, none⟩) n n) n xs := by
        have hlt2 := (hown.lt _ rfl).2
        refine ⟨hown.1, ?_⟩
        rcases hown.2 with ⟨h', _⟩ | ⟨g', cap', cur, h', hbb, hgg, rest⟩
        · cases h'
        · refine .inr ⟨g', cap', cur, h', hbb, ?_, rest⟩
          rw [hb2.block g' (Array.getElem?_eq_some_iff.1 hgg).1]
          exact hgg
      have hbel2 : Below w.heap.size w w2 := hbel.trans (hb2.mono hbel.size)
      have hxl : xs.length = n * 4 := hown2.1
      obtain ⟨x0, d0⟩ : ∃ x, w2.cell? ⟨w.heap.size, k * 4, none⟩ = some x := ⟨_, (hown2.cellAt (k * 4) (by omega)).trans (List.getElem?_eq_getElem (by omega))⟩
      obtain ⟨x1, d1⟩ : ∃ x, w2.cell? ⟨w.heap.size, k * 4 + 1, none⟩ = some x := ⟨_, (hown2.cellAt (k * 4 + 1) (by omega)).trans (List.getElem?_eq_getElem (by omega))⟩
      obtain ⟨x2, d2⟩ : ∃ x, w2.cell? ⟨w.heap.size, k * 4 + 1 + 1, none⟩ = some x := ⟨_, (hown2.cellAt (k * 4 + 1 + 1) (by omega)).trans (List.getElem?_eq_getElem (by omega))⟩
      obtain ⟨x3, d3⟩ : ∃ x, w2.cell? ⟨w.heap.size, k * 4 + 1 + 1 + 1, none⟩ = some x := ⟨_, (hown2.cellAt (k * 4 + 1 + 1 + 1) (by omega)).trans (List.getElem?_eq_getElem (by omega))⟩
      have f0 := hown2.frozenAt (k * 4)
      have f1 := hown2.frozenAt (k * 4 + 1)
      have f2 := hown2.frozenAt (k * 4 + 1 + 1)
      have f3 := hown2.frozenAt (k * 4 + 1 + 1 + 1)
      obtain ⟨hA1, hG1⟩ := hown2.stored (k * 4) (.string gh)
      obtain ⟨hA2, hG2⟩ := hA1.stored (k * 4 + 1) (.string gr)
      obtain ⟨hA3, hG3⟩ := hA2.stored (k * 4 + 1 + 1) (.int .i64 gc)
      obtain ⟨hA4, hG4⟩ := hA3.stored (k * 4 + 1 + 1 + 1) (.int .i64 gq)
      have row : ∀ j, some w.heap.size = some j → w.heap.size ≤ j := fun j hj => Nat.le_of_eq (Option.some.inj hj)
      have bA1 : Below w.heap.size w _ := hbel2.grown hG1 hbel2.size row
      have bA2 : Below w.heap.size w _ := bA1.grown hG2 bA1.size row
      have bA3 : Below w.heap.size w _ := bA2.grown hG3 bA2.size row
      have bA4 : Below w.heap.size w _ := bA3.grown hG4 bA3.size row
      clear hG1 hG2 hG3 hG4 hA1 hA2 hA3 bA1 bA2 bA3 hown2 hbel2 hown hbel hb2 row hxl q0 q1 q2 q3
      go_wp2
      go_roundw
      case rel => exact ⟨k + 1, _, by go_num, by omega, hA4, hlaid2, bA4⟩
      case measure => simp [intOf]; omega
    · obtain rfl : k = n := by omega
      have hfin : wr.ownsRow w.heap.size 31 4 (.slice (some ⟨w.heap.size, 0, none⟩) k k) k (gCells l) := by
        have e : xs = gCells l := by
          have h1 := hown.1
          unfold Laid at hlaid
          rw [List.take_of_length_le (by omega), List.take_of_length_le (by rw [HN.out]; exact Nat.le_refl _)] at hlaid
          exact hlaid
        rw [← e]; exact hown
      clear hown hown1 hlaid
      go_wp2
      go_ret
      exact ⟨rfl, hfin, hbel⟩

set_option maxHeartbeats 400000 in
theorem toPlan_nil (n c : Nat) (w : World) : Calls Try.prog 7 #[.slice none n c] w fun e w' => e = .returned (.slice none 0 0) ∧ w = w' := by
  have hq := fun (wx : World) => Lib.run_eql_slice_nil (P := Try.prog) wx 22 33 none n c 0 0 Try.underlying22
  go_enter Try.func7, Try.ntmps7
  go_wp2
  go_ret
  exact ⟨rfl, rfl⟩

end Go.Proofs.Qxb6608826a
