/-
  THE WALKS OF answeredBy, ZZansweredBy.
-/
import Derived.Test.Qxb6608839aAnsW
namespace Go.Proofs.Qxb6608839a
open Go Go.RowKit

/-- What answeredBy says. -/
def ans (u k : Bool) (xs : List UInt8) (s : ByteArray) (ys : List UInt8) (t : ByteArray) : Bool :=
  if u && k then true else if u then t.toList == s.toList else ys == xs && t.toList == s.toList

theorem wpList_eql_row {P : Program} {ops : Array Oper} {rest : List Oper} {o : Oper} {a : Act} {w : World} {Q : Exit → Act → World → Prop} (hgd : o.guard = none) (t t' : TypeId) (x y : Operand) (ho : o.op = .binOp .eql t x y t')
    (X Y : Array Value) (ex : a.eval x = .agg X) (ey : a.eval y = .agg Y) (hm : P.eqGuardType P.depth t = false) (b : Bool) (hr : (binOp .eql t (.agg X) (.agg Y)).run P w = .ok (.bool b) w)
    (h : wpList P ops Q rest (a.put o.dst (.bool b)) w) : wpList P ops Q (o :: rest) a w := by
  refine wpList_plain hgd fun K hK => ?_
  unfold Oper.wp execOp
  simp only [ho, ex, ey, Sem.run_bind, run_eqGuard_agg w .eql t x y X Y hm, Result.andThen_ok, hr]
  exact hK _ _ h

theorem guard26 : Try.prog.eqGuardType Try.prog.depth 26 = false := by kernel_rfl
theorem guard22 : Try.prog.eqGuardType Try.prog.depth 22 = false := by kernel_rfl

theorem Req.range {R T : Array Value} {u k : Bool} (hq : Req R T u k) {w : World} {b : Nat} {f : Nat × Nat} (h : w.heap[b]? = some (.cells R 37 f)) : w.rangeAt b 0 T.toList := by
  intro j v hv
  rw [Nat.zero_add, cell_of_row w b j R 37 f h]
  have hv' : T[j]? = some v := by simpa using hv
  rw [← hq.to, Array.getElem?_extract] at hv'
  split at hv'
  · simpa using hv'
  · cases hv'

set_option maxRecDepth 100000 in
set_option maxHeartbeats 400000 in
theorem answeredBy (R : Array Value) (u k : Bool) (xs ys : List UInt8) (s t : ByteArray) (hx : xs.length = 20) (hy : ys.length = 20) (hq : Req R (pa xs s) u k) (w : World) :
    Calls Try.prog 9 #[.agg R, .agg (pa ys t)] w fun e w' => e = .returned (.bool (ans u k xs s ys t)) ∧ Below w.heap.size w w' := by
  have hb : Below w.heap.size w ((w.alloc (.cells R 37)).alloc (.cells (pa ys t) 26)) := ((Below.refl _ _).alloc (Nat.le_refl _) _).alloc (by simp) _
  have HS := hidE (show ((w.alloc (.cells R 37)).alloc (.cells (pa ys t) 26)).heap.size = w.heap.size + 1 + 1 by simp)
  have HR := heap_alloc2_old w (.cells R 37) (.cells (pa ys t) 26)
  have HP := heap_alloc2_new w (.cells R 37) (.cells (pa ys t) 26)
  have hi37 : (Try.prog.info? 37).map (·.size) = some R.size := by rw [hq.size]; exact Try.size37
  have hi26 : (Try.prog.info? 26).map (·.size) = some (pa ys t).size := by rw [pa_size hy]; exact Try.size26
  have hi26' : (Try.prog.info? 26).map (·.size) = some (pa xs s).toList.length := by rw [Array.length_toList, pa_size hx]; exact Try.size26
  have HC := hidE (toContact R (pa xs s) u k hq ((w.alloc (.cells R 37)).alloc (.cells (pa ys t) 26)))
  have HQ := hidE hq
  clear hq
  cases hu : u
  case false =>
    subst hu
    go_enter Try.func9, Try.ntmps9
    go_wp2_with (refine wpList_load_row rfl 37 _ rfl w.heap.size rfl 37 R (0, 0) _ HR Try.underlying37 rfl hi37 ?_)
    refine HC.out.mono ?_
    rintro e w1 ⟨rfl, hb1⟩
    have HR1 : w1.heap[w.heap.size]? = some (.cells R 37 (0, 0)) := (hb1.block _ (by rw [HS.out]; omega)).trans HR
    have HP1 : w1.heap[w.heap.size + 1]? = some (.cells (pa ys t) 26 (0, 0)) := (hb1.block _ (by rw [HS.out]; omega)).trans HP
    have hbel : Below w.heap.size w w1 := hb.trans (hb1.mono (by rw [HS.out]; omega))
    have c52 : w1.cell? ⟨w.heap.size, 52, none⟩ = some (.bool false) := (cell_of_row _ w.heap.size 52 R 37 (0, 0) HR1).trans HQ.out.unnamed
    have hrg := HQ.out.range HR1
    have heq := eq_peer (s := t) (t := s) hy hx w1
    have HR1 := hidE HR1
    have HP1 := hidE HP1
    have hrg := hidE hrg
    have heq := hidE heq
    clear hb1 HC HR HP hb HS
    go_wp2_with (first
      | (refine wpList_load_row rfl 26 _ rfl (w.heap.size + 1) rfl 26 (pa ys t) (0, 0) _ HP1.out Try.underlying26 rfl hi26 ?_)
      | (refine wpList_load_mid rfl 26 _ rfl w.heap.size 0 rfl (pa xs s).toList _ hrg.out Try.underlying26 rfl hi26' ?_)
      | (refine wpList_eql_row rfl 26 26 _ _ rfl (pa ys t) (pa xs s) rfl rfl guard26 _ heq.out ?_))
    go_ret
    exact ⟨rfl, hbel⟩
  case true =>
    subst hu
    cases hk : k
    case true =>
      subst hk
      go_enter Try.func9, Try.ntmps9
      go_wp2_with (refine wpList_load_row rfl 37 _ rfl w.heap.size rfl 37 R (0, 0) _ HR Try.underlying37 rfl hi37 ?_)
      refine HC.out.mono ?_
      rintro e w1 ⟨rfl, hb1⟩
      have hbel : Below w.heap.size w w1 := hb.trans (hb1.mono (by rw [HS.out]; omega))
      clear hb1 HC HR HP hb HS
      go_wp2
      go_ret
      exact ⟨rfl, hbel⟩
    case false =>
      subst hk
      go_enter Try.func9, Try.ntmps9
      go_wp2_with (refine wpList_load_row rfl 37 _ rfl w.heap.size rfl 37 R (0, 0) _ HR Try.underlying37 rfl hi37 ?_)
      refine HC.out.mono ?_
      rintro e w1 ⟨rfl, hb1⟩
      have HR1 : w1.heap[w.heap.size]? = some (.cells R 37 (0, 0)) := (hb1.block _ (by rw [HS.out]; omega)).trans HR
      have HP1 : w1.heap[w.heap.size + 1]? = some (.cells (pa ys t) 26 (0, 0)) := (hb1.block _ (by rw [HS.out]; omega)).trans HP
      have hbel : Below w.heap.size w w1 := hb.trans (hb1.mono (by rw [HS.out]; omega))
      have c52 : w1.cell? ⟨w.heap.size, 52, none⟩ = some (.bool true) := (cell_of_row _ w.heap.size 52 R 37 (0, 0) HR1).trans HQ.out.unnamed
      have c20 : w1.cell? ⟨w.heap.size, 20, none⟩ = some (.string s) := (cell_of_row _ w.heap.size 20 R 37 (0, 0) HR1).trans (HQ.out.at20.trans (pa_20 hx))
      have d20 : w1.cell? ⟨w.heap.size + 1, 20, none⟩ = some (.string t) := (cell_of_row _ (w.heap.size + 1) 20 _ 26 (0, 0) HP1).trans (pa_20 hy)
      clear hb1 HC HR HP hb HS HR1 HP1
      go_wp2
      go_ret
      exact ⟨rfl, hbel⟩

end Go.Proofs.Qxb6608839a
