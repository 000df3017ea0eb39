/-
  THE ROW OF FnSumHeadcountsTakesOneMoreGrantAnywhere, PROVED.
-/
import Derived.Test.Qxb6608826aLawBn
import Derived.Test.Qxb6608826aOpen
namespace Go.Proofs.Qxb6608826a
open Go Go.ChangeShapes Go.WideShapes Go.ChangeAt Go.RowKit

theorem open_grant {H : Type} {enc : TypeId × Value → H} {W : World} {r : Reach} {b0 : Nat} {v : Value} {d : DataW H} {p : List MemPlace} (hv : Value.okWide Try.prog W r b0 33 v) (h : DataW.Trod enc Try.prog W 0 (fun _ => true) true 33 v d p) :
    ∃ g : Gr, v = .agg #[.string g.holder, .string g.role, .int .i64 g.head, .int .i64 g.qty] ∧ -9223372036854775808 ≤ g.head ∧ g.head ≤ 9223372036854775807 := by
  obtain ⟨v0, v1, v2, v3, y0, y1, y2, y3, n, rfl, _, _, g0, g1, g2, g3⟩ := Go.Joins.open_agg4 Try.underlying33 (by kernel_rfl) Try.cells33 hv h
  obtain ⟨s0, e0, _, _⟩ := DataW.trod_string Try.underlying9 g0
  obtain ⟨s1, e1, _, _⟩ := DataW.trod_string Try.underlying9 g1
  obtain ⟨c, e2, _, wc⟩ := DataW.trod_int Try.underlying2 g2
  obtain ⟨q, e3, _, _⟩ := DataW.trod_int Try.underlying2 g3
  injection e0 with e0
  injection e1 with e1
  injection e2 with e2
  injection e3 with e3
  subst e0 e1 e2 e3
  simp [Lit.wf, IntKind.min, IntKind.max, IntKind.signed, IntKind.bits] at wc
  exact ⟨⟨s0, s1, c, q⟩, rfl, wc.1, wc.2⟩

set_option maxRecDepth 100000 in
theorem fnSumHeadcountsTakesOneMoreGrantAnywhere_lifted (os : Os) (started : os.Started) (H : Type) (enc : TypeId × Value → H) :
    ReturnsInHanded {} Try.checked os 4 .any (Rows.fnSumHeadcountsTakesOneMoreGrantAnywhereSpec.pre6 enc Try.prog Try.f4 Rows.fnSumHeadcountsTakesOneMoreGrantAnywhereRow.domain false) (Rows.fnSumHeadcountsTakesOneMoreGrantAnywhereSpec.post enc Try.prog Try.f4 false true false false) := by
  refine returnsInHanded_of_change (C := Try.checked) Try.own started (by kernel_rfl) Try.func4
    (ChangeSpec.witness6 (enc := enc) (C := Try.checked) false ⟨#[], #[.slice none 0 0, .agg #[.string ⟨#[]⟩, .string ⟨#[]⟩, .int .i64 0, .int .i64 0], .int .i64 0], []⟩ 8 (by kernel_rfl) (by kernel_rfl) (by kernel_rfl) (by kernel_rfl)) ?_
  intro W base args ds gs before hval0 hW hcnd _
  have hval : ∀ (j : Nat) t v, Try.f4.params[j]? = some t → args[j]? = some v → Value.okWide Try.prog W .any base t v := hval0
  have hW' := hW
  obtain ⟨p, q, hA0, hV, rfl, hfz, hnd⟩ := hW
  have hA : DataW.TrodAll enc Try.prog W 0 (fun _ => true) true Try.f4.params.toList args.toList ds p := hA0
  rw [Try.params4] at hA hval
  obtain ⟨v0, vs0, d0, ds0, p0, q0, hargs, rfl, rfl, h0, r0⟩ := trodAll_cons hA
  obtain ⟨v1, vs1, d1, ds1, p1, q1, rfl, rfl, rfl, h1, r1⟩ := trodAll_cons r0
  obtain ⟨v2, vs2, d2, ds2, p2, q2, rfl, rfl, rfl, h2, r2⟩ := trodAll_cons r1
  obtain ⟨rfl, rfl, rfl⟩ := trodAll_nil r2
  obtain rfl : args = #[v0, v1, v2] := by cases args; simp_all
  obtain ⟨rfl, rfl⟩ := trodVars_none hV
  obtain ⟨a0, len0, cap0, rfl⟩ := okWide_slice Try.underlying22 (hval 0 22 v0 rfl rfl)
  have lt0 : ∀ x ∈ p0, x.block < W.heap.size := by obtain ⟨m, hm⟩ := h0; exact DataW.trod_lt m _ _ _ hm
  obtain ⟨l, b0, o0, x0⟩ := open_grants h0
  obtain ⟨g, rfl, g0, g1⟩ := open_grant (hval 1 33 v1 rfl rfl) h1
  have lt1 : ∀ x ∈ p1, x.block < W.heap.size := by obtain ⟨m, hm⟩ := h1; exact DataW.trod_lt m _ _ _ hm
  obtain ⟨i, rfl, rfl, rfl, wi⟩ := open_int Try.underlying3 (hval 2 3 v2 rfl rfl) h2
  clear hA0 hval0
  refine (lawB a0 len0 cap0 i g.holder g.role g.head g.qty l W b0 o0 x0 g0 g1).mono fun e W' ⟨he, bel⟩ => ?_
  subst he
  exact ⟨_, rfl, _, _, _, [], _, [], hW', trodAll_mk1 (shut_bool Try.underlying4 _), (trodAll_cons_mk (Below.trod Try.laidOut (by kernel_rfl) (of_decide_eq_true (by kernel_rfl)) h0 bel lt0) (trodAll_cons_mk (Below.trod Try.laidOut (by kernel_rfl) (of_decide_eq_true (by kernel_rfl)) h1 bel lt1) (trodAll_cons_mk (shut_int Try.underlying3 wi) trodAll_mk0))), rfl, bel.frame _, fun h => by cases h⟩

theorem fnSumHeadcountsTakesOneMoreGrantAnywhere_holds : Rows.FnSumHeadcountsTakesOneMoreGrantAnywhereSaid :=
  OpenClaim.holds_of_wide 4 Try.f4 rfl rfl rfl rfl rfl rfl rfl ⟨rfl, rfl, rfl, rfl, rfl⟩ rfl rfl rfl rfl rfl (by kernel_rfl) Try.func4 (by kernel_rfl)
    (of_decide_eq_true (by kernel_rfl)) (by unfold Func.isWrapper; first | (rw [if_pos (by decide +kernel)]; kernel_rfl) | (rw [if_neg (by decide +kernel)]; exact ⟨rfl, rfl⟩))
    (fun os started H enc _ => fnSumHeadcountsTakesOneMoreGrantAnywhere_lifted os started H enc)

end Go.Proofs.Qxb6608826a
