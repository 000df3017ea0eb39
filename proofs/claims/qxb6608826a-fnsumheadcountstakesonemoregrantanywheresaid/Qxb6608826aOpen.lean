/-
  THE SLICE OF GRANTS THAT CAME IN, opened.
-/
import Derived.Test.Qxb6608826aMem
import Derived.ProofKit
import Derived.OpenShut
import Derived.Deep.Slices
import Derived.Lib.SmallJoins
namespace Go.Proofs.Qxb6608826a
open Go Go.ChangeShapes Go.WideShapes Go.ChangeAt Go.RowKit

theorem Try.own : ownKnob Try.prog.godebug = none := by kernel_rfl
theorem Try.laidOut : laidOutB Try.prog = true := by kernel_rfl
theorem Try.cells2 : Try.prog.cellsOf 2 = 1 := by kernel_rfl
theorem Try.cells9 : Try.prog.cellsOf 9 = 1 := by kernel_rfl
theorem Try.cells33 : Try.prog.cellsOf 33 = 4 := by kernel_rfl

theorem spot_of {a : Addr} (h : a.spot = none) : a = ⟨a.block, a.off, none⟩ := by cases a; simp_all

theorem add_spot {a : Addr} {n : Nat} (h : a.spot = none) : a.add n = ⟨a.block, a.off + n, none⟩ := by
  rw [spot_of h, Addr.add_lit]

theorem list4 {α : Type} (l : List α) (h : l.length = 4) : ∃ a b c d, l = [a, b, c, d] := by
  match l, h with
  | [a, b, c, d], _ => exact ⟨a, b, c, d, rfl⟩

/-- One grant out of its four cells. -/
theorem open_cells {H : Type} {enc : TypeId × Value → H} {W : World} {n : Nat} {cs : List Value} {x : DataW H × List MemPlace} (hlen : cs.length = 4) (h : DataW.trod enc Try.prog W 0 (fun _ => true) true n 33 cs = some x) :
    ∃ g : Gr, cs = [.string g.holder, .string g.role, .int .i64 g.head, .int .i64 g.qty] ∧ -9223372036854775808 ≤ g.head ∧ g.head ≤ 9223372036854775807 := by
  obtain ⟨xs, k, rfl, _, _, hxl, hf⟩ := DataW.trod_struct Try.underlying33 h
  obtain ⟨v0, v1, v2, v3, rfl⟩ := list4 cs hlen
  obtain ⟨y0, y1, y2, y3, rfl⟩ := list4 xs hxl
  have g0 := hf 0 _ rfl
  have g1 := hf 1 _ rfl
  have g2 := hf 2 _ rfl
  have g3 := hf 3 _ rfl
  simp [Try.cells2, Try.cells9] at g0 g1 g2 g3
  obtain ⟨s0, e0, _, _⟩ := DataW.trod_string Try.underlying9 g0
  obtain ⟨s1, e1, _, _⟩ := DataW.trod_string Try.underlying9 g1
  obtain ⟨c, e2, _, wc⟩ := DataW.trod_int Try.underlying2 g2
  obtain ⟨q, e3, _, _⟩ := DataW.trod_int Try.underlying2 g3
  injection e0 with e0
  injection e1 with e1
  injection e2 with e2
  injection e3 with e3
  subst e0 e1 e2 e3
  simp [Lit.wf, IntKind.min, IntKind.max, IntKind.signed, IntKind.bits] at wc
  exact ⟨⟨s0, s1, c, q⟩, rfl, wc.1, wc.2⟩

theorem open_grants {H : Type} {enc : TypeId × Value → H} {W : World} {ao : Option Addr} {len cap : Nat} {d : DataW H} {ps : List MemPlace} (h : DataW.Trod enc Try.prog W 0 (fun _ => true) true 22 (.slice ao len cap) d ps) :
    ∃ l, Gs W ao len l ∧ Ok l ∧ ∀ a : Addr, ao = some a → 0 < len → a.block < W.heap.size := by
  obtain ⟨fuel, hf⟩ := h
  rcases Go.Deep.open_slice Try.underlying22 hf with ⟨hcs, _⟩ | ⟨x, l, c, m, k, D, Pl, hcs, _, hl, hm, hmm, _, hcell⟩
  · simp [Value.cells] at hcs
    obtain ⟨rfl, rfl, rfl⟩ := hcs
    exact ⟨[], ⟨rfl, fun j h => by simp at h⟩, (fun p hp => by simp at hp), fun a ha => by cases ha⟩
  · simp [Value.cells] at hcs
    obtain ⟨rfl, rfl, rfl⟩ := hcs
    simp only [if_true] at hmm
    rw [Try.cells33] at hcell
    have each : ∀ i, i < len → ∃ g : Gr, W.cell? (x.add (i * 4)) = some (.string g.holder) ∧ W.cell? (x.add (i * 4 + 1)) = some (.string g.role) ∧ W.cell? (x.add (i * 4 + 2)) = some (.int .i64 g.head) ∧ W.cell? (x.add (i * 4 + 3)) = some (.int .i64 g.qty) ∧ -9223372036854775808 ≤ g.head ∧ g.head ≤ 9223372036854775807 := by
      intro i hi
      obtain ⟨cs, hc, ht⟩ := hcell i (by omega)
      obtain ⟨_, hlen, hcc⟩ := World.cells?_some hc
      obtain ⟨g, rfl, b1, b2⟩ := open_cells hlen ht
      have k0 := hcc 0 (by omega)
      have k1 := hcc 1 (by omega)
      have k2 := hcc 2 (by omega)
      have k3 := hcc 3 (by omega)
      rw [Addr.add_add] at k0 k1 k2 k3
      exact ⟨g, k0, k1, k2, k3, b1, b2⟩
    have inh : Inhabited Gr := ⟨⟨ByteArray.empty, ByteArray.empty, 0, 0⟩⟩
    obtain ⟨G, hG⟩ := Go.Deep.choose_lt each
    refine ⟨(List.range len).map G, ⟨by simp, fun j hj => ?_⟩, ?_, fun a ha h0 => ?_⟩
    · have hj' : j < len := by simpa using hj
      obtain ⟨k0, k1, k2, k3, _, _⟩ := hG j hj'
      have hs : x.spot = none := World.cell?_spot (by simpa [Addr.add_zero'] using (hG 0 (by omega)).1)
      rw [add_spot hs] at k0 k1 k2 k3
      refine ⟨x.block, x.off, by rw [← spot_of hs], ?_, ?_, ?_, ?_⟩
      · rw [k0]; simp
      · rw [Nat.add_assoc, k1]; simp
      · rw [Nat.add_assoc, Nat.add_assoc, k2]; simp
      · rw [Nat.add_assoc, Nat.add_assoc, Nat.add_assoc, k3]; simp
    · intro p hp
      obtain ⟨i, hi, rfl⟩ := List.mem_map.1 hp
      obtain ⟨_, _, _, _, b1, b2⟩ := hG i (List.mem_range.1 hi)
      exact ⟨b1, b2⟩
    · obtain rfl := Option.some.inj ha
      have := World.block_lt_of_cell? W _ (hG 0 (by omega)).1
      simpa [Addr.add_zero'] using this

end Go.Proofs.Qxb6608826a
