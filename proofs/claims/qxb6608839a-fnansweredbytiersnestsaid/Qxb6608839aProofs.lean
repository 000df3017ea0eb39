/-
  THE ROW OF FnAnsweredByTiersNest, PROVED.
-/
import Derived.Test.Qxb6608839aLaw
import Derived.ProofKit
import Derived.OpenShut
import Derived.Deep.Slices
namespace Go.Proofs.Qxb6608839a
open Go Go.ChangeShapes Go.WideShapes Go.ChangeAt Go.RowKit

theorem Try.own : ownKnob Try.prog.godebug = none := by kernel_rfl
theorem Try.laidOut : laidOutB Try.prog = true := by kernel_rfl
theorem Try.cells5 : Try.prog.cellsOf 5 = 1 := by kernel_rfl
theorem Try.cells22 : Try.prog.cellsOf 22 = 20 := by kernel_rfl

theorem okWide_row {P : Program} {w : World} {r : Reach} {base n : Nat} {t e : TypeId} {v : Value} (ht : P.underlying t = some (.array n e)) (h : Value.okWide P w r base t v) : ∃ cs, v = .agg cs ∧ cs.size = P.cellsOf t := by
  simp only [Value.okWide, ht] at h
  obtain ⟨cs, h1, h2, _⟩ := h
  exact ⟨cs, h1, h2⟩

theorem at_of_take {α : Type} {l : List α} {i : Nat} {x : α} (h : (l.drop i).take 1 = [x]) : l[i]? = some x := by
  have h0 : ((l.drop i).take 1)[0]? = some x := by rw [h]; rfl
  simpa using h0

/-- An id that came in. -/
theorem open_id {H : Type} {enc : TypeId × Value → H} {W : World} {r : Reach} {b0 : Nat} {v : Value} {d : DataW H} {p : List MemPlace} (hv : Value.okWide Try.prog W r b0 22 v) (h : DataW.Trod enc Try.prog W 0 (fun _ => true) true 22 v d p) :
    ∃ xs : List UInt8, v = .agg (ida xs) ∧ xs.length = 20 := by
  obtain ⟨cs, rfl, hsz⟩ := okWide_row Try.underlying22 hv
  rw [Try.cells22] at hsz
  obtain ⟨fuel, hf⟩ := h
  obtain ⟨ys, m, rfl, _, _, hyl, hi⟩ := DataW.trod_array Try.underlying22 hf
  rw [Try.cells5] at hi
  have each : ∀ i, i < 20 → ∃ b : UInt8, cs.toList[i]? = some (Extern.Stop.cell b) := by
    intro i h20
    have hy := hi i h20
    rw [List.getElem?_eq_getElem (by omega)] at hy
    obtain ⟨n, e, _, wf⟩ := DataW.trod_int Try.underlying5 hy
    have hc := at_of_take e
    simp only [Nat.mul_one] at hc
    simp [Lit.wf, IntKind.min, IntKind.max, IntKind.signed, IntKind.bits] at wf
    refine ⟨n.toNat.toUInt8, ?_⟩
    have e2 : Extern.Stop.cell n.toNat.toUInt8 = .int .u8 n := by
      unfold Extern.Stop.cell
      have e3 : n.toNat.toUInt8.toNat = n.toNat := by
        have := UInt8.toNat_ofNat' (n := n.toNat)
        show (UInt8.ofNat n.toNat).toNat = n.toNat
        rw [this]
        omega
      rw [e3]
      congr 1
      show ((n.toNat : Nat) : Int) = n
      omega
    rw [e2]
    simpa [Value.cells] using hc
  have inh : Inhabited UInt8 := ⟨0⟩
  obtain ⟨G, hG⟩ := Go.Deep.choose_lt each
  refine ⟨(List.range 20).map G, ?_, by simp⟩
  congr 1
  apply Array.ext'
  apply List.ext_getElem?
  intro i
  by_cases h20 : i < 20
  · rw [hG i h20]
    simp [ida, h20]
  · rw [List.getElem?_eq_none (by simp; omega), List.getElem?_eq_none (by simp [ida]; omega)]

set_option maxRecDepth 100000 in
theorem fnAnsweredByTiersNest_lifted (os : Os) (started : os.Started) (H : Type) (enc : TypeId × Value → H) :
    ReturnsInHanded {} Try.checked os 3 .any (Rows.fnAnsweredByTiersNestSpec.pre6 enc Try.prog Try.f3 Rows.fnAnsweredByTiersNestRow.domain false) (Rows.fnAnsweredByTiersNestSpec.post enc Try.prog Try.f3 false true false false) := by
  refine returnsInHanded_of_change (C := Try.checked) Try.own started (by kernel_rfl) Try.func3
    (ChangeSpec.witness6 (enc := enc) (C := Try.checked) false ⟨#[], #[.agg (Array.replicate 20 (.int .u8 0)), .string ⟨#[]⟩, .agg (Array.replicate 20 (.int .u8 0)), .string ⟨#[]⟩], []⟩ 8 (by kernel_rfl) (by kernel_rfl) (by kernel_rfl) (by kernel_rfl)) ?_
  intro W base args ds gs before hval0 hW hcnd _
  have hval : ∀ (j : Nat) t v, Try.f3.params[j]? = some t → args[j]? = some v → Value.okWide Try.prog W .any base t v := hval0
  have hW' := hW
  obtain ⟨p, q, hA0, hV, rfl, hfz, hnd⟩ := hW
  have hA : DataW.TrodAll enc Try.prog W 0 (fun _ => true) true Try.f3.params.toList args.toList ds p := hA0
  rw [Try.params3] at hA hval
  obtain ⟨v0, vs0, d0, ds0, p0, q0, hargs, rfl, rfl, h0, r0⟩ := trodAll_cons hA
  obtain ⟨v1, vs1, d1, ds1, p1, q1, rfl, rfl, rfl, h1, r1⟩ := trodAll_cons r0
  obtain ⟨v2, vs2, d2, ds2, p2, q2, rfl, rfl, rfl, h2, r2⟩ := trodAll_cons r1
  obtain ⟨v3, vs3, d3, ds3, p3, q3, rfl, rfl, rfl, h3, r3⟩ := trodAll_cons r2
  obtain ⟨rfl, rfl, rfl⟩ := trodAll_nil r3
  obtain rfl : args = #[v0, v1, v2, v3] := by cases args; simp_all
  obtain ⟨rfl, rfl⟩ := trodVars_none hV
  obtain ⟨xs, rfl, hx⟩ := open_id (hval 0 22 v0 rfl rfl) h0
  obtain ⟨s, rfl⟩ := okWide_string Try.underlying9 (hval 1 9 v1 rfl rfl)
  obtain ⟨ys, rfl, hy⟩ := open_id (hval 2 22 v2 rfl rfl) h2
  obtain ⟨t, rfl⟩ := okWide_string Try.underlying9 (hval 3 9 v3 rfl rfl)
  have lt0 : ∀ x ∈ p0, x.block < W.heap.size := by obtain ⟨m, hm⟩ := h0; exact DataW.trod_lt m _ _ _ hm
  have lt1 : ∀ x ∈ p1, x.block < W.heap.size := by obtain ⟨m, hm⟩ := h1; exact DataW.trod_lt m _ _ _ hm
  have lt2 : ∀ x ∈ p2, x.block < W.heap.size := by obtain ⟨m, hm⟩ := h2; exact DataW.trod_lt m _ _ _ hm
  have lt3 : ∀ x ∈ p3, x.block < W.heap.size := by obtain ⟨m, hm⟩ := h3; exact DataW.trod_lt m _ _ _ hm
  clear hA0 hval0
  refine (law xs ys s t hx hy W).mono fun e W' ⟨he, bel⟩ => ?_
  subst he
  exact ⟨_, rfl, _, _, _, [], _, [], hW', trodAll_mk1 (shut_bool Try.underlying4 _), (trodAll_cons_mk (Below.trod Try.laidOut (by kernel_rfl) (of_decide_eq_true (by kernel_rfl)) h0 bel lt0) (trodAll_cons_mk (Below.trod Try.laidOut (by kernel_rfl) (of_decide_eq_true (by kernel_rfl)) h1 bel lt1) (trodAll_cons_mk (Below.trod Try.laidOut (by kernel_rfl) (of_decide_eq_true (by kernel_rfl)) h2 bel lt2) (trodAll_cons_mk (Below.trod Try.laidOut (by kernel_rfl) (of_decide_eq_true (by kernel_rfl)) h3 bel lt3) trodAll_mk0)))), rfl, bel.frame _, fun h => by cases h⟩

theorem fnAnsweredByTiersNest_holds : Rows.FnAnsweredByTiersNestSaid :=
  OpenClaim.holds_of_wide 3 Try.f3 rfl rfl rfl rfl rfl rfl rfl ⟨rfl, rfl, rfl, rfl, rfl⟩ rfl rfl rfl rfl rfl (by kernel_rfl) Try.func3 (by kernel_rfl)
    (of_decide_eq_true (by kernel_rfl)) (by unfold Func.isWrapper; first | (rw [if_pos (by decide +kernel)]; kernel_rfl) | (rw [if_neg (by decide +kernel)]; exact ⟨rfl, rfl⟩))
    (fun os started H enc _ => fnAnsweredByTiersNest_lifted os started H enc)

end Go.Proofs.Qxb6608839a
