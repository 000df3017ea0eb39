/-
  THE ROW OF FnTxnsJoinAtAnyCut, PROVED.
-/
import Derived.Test.Qxb6608741aLawB
import Derived.ProofKit
import Derived.OpenShut
import Derived.Deep.SlicePairs
namespace Go.Proofs.Qxb6608741a
open Go Go.ChangeShapes Go.WideShapes Go.ChangeAt Go.RowKit

theorem Try.own : ownKnob Try.prog.godebug = none := by kernel_rfl
theorem Try.laidOut : laidOutB Try.prog = true := by kernel_rfl
theorem Try.cells5 : Try.prog.cellsOf 5 = 1 := by kernel_rfl
theorem Try.cells26 : Try.prog.cellsOf 26 = 1 := by kernel_rfl
theorem Try.cells28 : Try.prog.cellsOf 28 = 2 := by kernel_rfl

theorem spot_of {a : Addr} (h : a.spot = none) : a = ⟨a.block, a.off, none⟩ := by cases a; simp_all

theorem add_spot {a : Addr} {n : Nat} (h : a.spot = none) : a.add n = ⟨a.block, a.off + n, none⟩ := by
  rw [spot_of h, Addr.add_lit]

/-- The byte slice that came in. -/
theorem open_bytes {H : Type} {enc : TypeId × Value → H} {W : World} {ao : Option Addr} {len cap : Nat} {d : DataW H} {ps : List MemPlace} (h : DataW.Trod enc Try.prog W 0 (fun _ => true) true 22 (.slice ao len cap) d ps) :
    ∃ l, Bs W ao len l ∧ len ≤ 9223372036854775807 ∧ ∀ a : Addr, ao = some a → 0 < len → a.block < W.heap.size := by
  obtain ⟨fuel, hf⟩ := h
  rcases open_ints Try.underlying22 Try.underlying5 Try.cells5 hf with ⟨hcs, _⟩ | ⟨x, l, c, zs, hcs, _, hl, hm, hz, _, hcell, hwz⟩
  · simp [Value.cells] at hcs
    obtain ⟨rfl, rfl, rfl⟩ := hcs
    exact ⟨[], ⟨rfl, fun j h => by simp at h⟩, by omega, fun a ha => by cases ha⟩
  · simp [Value.cells] at hcs
    obtain ⟨rfl, rfl, rfl⟩ := hcs
    simp only [if_true] at hz
    unfold maxLen at hm
    have hlz : len ≤ zs.length := by omega
    refine ⟨(zs.take len).map fun z => z.toNat.toUInt8, ⟨by simp; omega, fun j hj => ?_⟩, by omega, fun a ha h0 => ?_⟩
    · have hj' : j < len := by simp at hj; omega
      have hjz : j < zs.length := by omega
      have hc := hcell j hjz
      have hs : x.spot = none := World.cell?_spot (by simpa [Addr.add_zero'] using hcell 0 (by omega))
      rw [add_spot hs] at hc
      refine ⟨x.block, x.off, by rw [← spot_of hs], ?_⟩
      rw [hc]
      have hw := hwz zs[j] (List.getElem_mem hjz)
      simp [Lit.wf, IntKind.min, IntKind.max, IntKind.signed, IntKind.bits] at hw
      have e : zs.getD j 0 = zs[j] := by simp [List.getD, hjz]
      simp only [List.getElem_map, List.getElem_take]
      rw [e]
      rw [Lib.toUInt8_toNat (by omega)]
      congr 2
      omega
    · obtain rfl := Option.some.inj ha
      have := World.block_lt_of_cell? W _ (hcell 0 (by omega))
      simpa [Addr.add_zero'] using this

/-- A slice of pairs that came in. -/
theorem open_pairs {H : Type} {enc : TypeId × Value → H} {W : World} {ao : Option Addr} {len cap : Nat} {d : DataW H} {ps : List MemPlace} (h : DataW.Trod enc Try.prog W 0 (fun _ => true) true 23 (.slice ao len cap) d ps) :
    ∃ l, Tx W ao len l ∧ Small l ∧ len ≤ 9223372036854775807 ∧ ∀ a : Addr, ao = some a → 0 < len → a.block < W.heap.size := by
  obtain ⟨fuel, hf⟩ := h
  rcases Go.Deep.open_slice_pairs Try.underlying23 Try.underlying28 Try.cells28 rfl rfl Try.cells26 Try.cells26 hf with ⟨hcs, _⟩ | ⟨x, l, c, m, k, V0, V1, D0, D1, P0, P1, hcs, _, hl, hm, hmm, _, hcell⟩
  · simp [Value.cells] at hcs
    obtain ⟨rfl, rfl, rfl⟩ := hcs
    exact ⟨[], ⟨rfl, fun j h => by simp at h⟩, (fun p hp => by simp at hp), by omega, fun a ha => by cases ha⟩
  · simp [Value.cells] at hcs
    obtain ⟨rfl, rfl, rfl⟩ := hcs
    simp only [if_true] at hmm
    unfold maxLen at hm
    have word : ∀ i, i < len → ∃ a b : Nat, a < 18446744073709551616 ∧ b < 18446744073709551616 ∧ V0 i = .int .u64 a ∧ V1 i = .int .u64 b := by
      intro i hi
      obtain ⟨_, _, t0, t1⟩ := hcell i (by omega)
      obtain ⟨a, e0, _, wa⟩ := DataW.trod_int Try.underlying26 t0
      obtain ⟨b, e1, _, wb⟩ := DataW.trod_int Try.underlying26 t1
      simp [Lit.wf, IntKind.min, IntKind.max, IntKind.signed, IntKind.bits] at wa wb
      injection e0 with e0
      injection e1 with e1
      refine ⟨a.toNat, b.toNat, by omega, by omega, ?_, ?_⟩
      · rw [e0]; congr 1; omega
      · rw [e1]; congr 1; omega
    refine ⟨(List.range len).map fun i => ((intOf (V0 i)).toNat, (intOf (V1 i)).toNat), ⟨by simp, fun j hj => ?_⟩, ?_, by omega, fun a ha h0 => ?_⟩
    · have hj' : j < len := by simpa using hj
      obtain ⟨q0, q1, _, _⟩ := hcell j (by omega)
      obtain ⟨a, b, _, _, e0, e1⟩ := word j hj'
      have hs : x.spot = none := World.cell?_spot (by simpa [Addr.add_zero'] using (hcell 0 (by omega)).1)
      rw [add_spot hs, e0] at q0
      rw [add_spot hs, e1] at q1
      refine ⟨x.block, x.off, by rw [← spot_of hs], ?_, ?_⟩
      · rw [q0]; simp [e0, intOf]
      · rw [Nat.add_assoc, q1]; simp [e1, intOf]
    · intro p hp
      obtain ⟨i, hi, rfl⟩ := List.mem_map.1 hp
      obtain ⟨a, b, ha, hb, e0, e1⟩ := word i (List.mem_range.1 hi)
      simp only [e0, e1, intOf]
      omega
    · obtain rfl := Option.some.inj ha
      have := World.block_lt_of_cell? W _ (hcell 0 (by omega)).1
      simpa [Addr.add_zero'] using this

theorem law_any (ao bo co : Option Addr) (n c m d k e : Nat) (lp : List UInt8) (ta tb : List (Nat × Nat)) (w : World) (hn : n ≤ 9223372036854775807) (hm : m ≤ 9223372036854775807) (hk : k ≤ 9223372036854775807)
    (hp : Bs w ao n lp) (hta : Tx w bo m ta) (htb : Tx w co k tb) (sa : Small ta) (sb : Small tb)
    (hA : ∀ a : Addr, ao = some a → 0 < n → a.block < w.heap.size) (hB : ∀ a : Addr, bo = some a → 0 < m → a.block < w.heap.size) (hC : ∀ a : Addr, co = some a → 0 < k → a.block < w.heap.size) :
    Calls Try.prog 3 #[.slice ao n c, .slice bo m d, .slice co k e] w fun e w' => e = .returned (.bool true) ∧ Below w.heap.size w w' := by
  by_cases h : 262144 < n ∨ 16384 < m ∨ 16384 < k
  · refine (law_big ao bo co n c m d k e w hn hm hk h).mono ?_
    rintro e w' ⟨rfl, rfl⟩
    exact ⟨rfl, Below.refl _ _⟩
  · exact law_small ao bo co n c m d k e lp ta tb w (by omega) (by omega) (by omega) hp hta htb sa sb hA hB hC

set_option maxRecDepth 100000 in
theorem fnTxnsJoinAtAnyCut_lifted (os : Os) (started : os.Started) (H : Type) (enc : TypeId × Value → H) :
    ReturnsInHanded {} Try.checked os 3 .any (Rows.fnTxnsJoinAtAnyCutSpec.pre6 enc Try.prog Try.f3 Rows.fnTxnsJoinAtAnyCutRow.domain false) (Rows.fnTxnsJoinAtAnyCutSpec.post enc Try.prog Try.f3 false true false false) := by
  refine returnsInHanded_of_change (C := Try.checked) Try.own started (by kernel_rfl) Try.func3
    (ChangeSpec.witness6 (enc := enc) (C := Try.checked) false ⟨#[], #[.slice none 0 0, .slice none 0 0, .slice none 0 0], []⟩ 8 (by kernel_rfl) (by kernel_rfl) (by kernel_rfl) (by kernel_rfl)) ?_
  intro W base args ds gs before hval0 hW hcnd _
  have hval : ∀ (j : Nat) t v, Try.f3.params[j]? = some t → args[j]? = some v → Value.okWide Try.prog W .any base t v := hval0
  have hW' := hW
  obtain ⟨p, q, hA0, hV, rfl, hfz, hnd⟩ := hW
  have hA : DataW.TrodAll enc Try.prog W 0 (fun _ => true) true Try.f3.params.toList args.toList ds p := hA0
  rw [Try.params3] at hA hval
  obtain ⟨v0, vs0, d0, ds0, p0, q0, hargs, rfl, rfl, h0, r0⟩ := trodAll_cons hA
  obtain ⟨v1, vs1, d1, ds1, p1, q1, rfl, rfl, rfl, h1, r1⟩ := trodAll_cons r0
  obtain ⟨v2, vs2, d2, ds2, p2, q2, rfl, rfl, rfl, h2, r2⟩ := trodAll_cons r1
  obtain ⟨rfl, rfl, rfl⟩ := trodAll_nil r2
  obtain rfl : args = #[v0, v1, v2] := by cases args; simp_all
  obtain ⟨rfl, rfl⟩ := trodVars_none hV
  obtain ⟨a0, len0, cap0, rfl⟩ := okWide_slice Try.underlying22 (hval 0 22 v0 rfl rfl)
  obtain ⟨a1, len1, cap1, rfl⟩ := okWide_slice Try.underlying23 (hval 1 23 v1 rfl rfl)
  obtain ⟨a2, len2, cap2, rfl⟩ := okWide_slice Try.underlying23 (hval 2 23 v2 rfl rfl)
  have lt0 : ∀ x ∈ p0, x.block < W.heap.size := by obtain ⟨m, hm⟩ := h0; exact DataW.trod_lt m _ _ _ hm
  have lt1 : ∀ x ∈ p1, x.block < W.heap.size := by obtain ⟨m, hm⟩ := h1; exact DataW.trod_lt m _ _ _ hm
  have lt2 : ∀ x ∈ p2, x.block < W.heap.size := by obtain ⟨m, hm⟩ := h2; exact DataW.trod_lt m _ _ _ hm
  obtain ⟨lp, b0, m0, x0⟩ := open_bytes h0
  obtain ⟨ta, b1, s1, m1, x1⟩ := open_pairs h1
  obtain ⟨tb, b2, s2, m2, x2⟩ := open_pairs h2
  clear hA0 hval0
  refine (law_any a0 a1 a2 len0 cap0 len1 cap1 len2 cap2 lp ta tb W m0 m1 m2 b0 b1 b2 s1 s2 x0 x1 x2).mono fun e W' ⟨he, bel⟩ => ?_
  subst he
  exact ⟨_, rfl, _, _, _, [], _, [], hW', trodAll_mk1 (shut_bool Try.underlying4 _), (trodAll_cons_mk (Below.trod Try.laidOut (by kernel_rfl) (of_decide_eq_true (by kernel_rfl)) h0 bel lt0) (trodAll_cons_mk (Below.trod Try.laidOut (by kernel_rfl) (of_decide_eq_true (by kernel_rfl)) h1 bel lt1) (trodAll_cons_mk (Below.trod Try.laidOut (by kernel_rfl) (of_decide_eq_true (by kernel_rfl)) h2 bel lt2) trodAll_mk0))), rfl, bel.frame _, fun h => by cases h⟩

theorem fnTxnsJoinAtAnyCut_holds : Rows.FnTxnsJoinAtAnyCutSaid :=
  OpenClaim.holds_of_wide 3 Try.f3 rfl rfl rfl rfl rfl rfl rfl ⟨rfl, rfl, rfl, rfl, rfl⟩ rfl rfl rfl rfl rfl (by kernel_rfl) Try.func3 (by kernel_rfl)
    (of_decide_eq_true (by kernel_rfl)) (by unfold Func.isWrapper; first | (rw [if_pos (by decide +kernel)]; kernel_rfl) | (rw [if_neg (by decide +kernel)]; exact ⟨rfl, rfl⟩))
    (fun os started H enc _ => fnTxnsJoinAtAnyCut_lifted os started H enc)

end Go.Proofs.Qxb6608741a
