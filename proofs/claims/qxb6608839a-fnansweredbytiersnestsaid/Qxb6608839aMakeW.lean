/-
  THE WALKS OF the request's makers.
-/
import Derived.Test.Qxb6608839aEqW
namespace Go.Proofs.Qxb6608839a
open Go Go.RowKit

/-- 'alloc' of a struct whose zero value is known by name alone. -/
theorem wpList_alloc_row {P : Program} {ops : Array Oper} {rest : List Oper} {o : Oper} {a : Act} {w : World} {Q : Exit → Act → World → Prop} (hgd : o.guard = none) (t : TypeId) (ho : o.op = .alloc t) (Z : Array Value)
    (hz : ∀ w, (zeroValue t).run P w = .ok (.agg Z) w) (h : wpList P ops Q rest (a.put o.dst (.pointer (some ⟨w.heap.size, 0, none⟩))) (w.alloc (.cells Z t))) : wpList P ops Q (o :: rest) a w := by
  refine wpList_plain hgd fun K hK => ?_
  unfold Oper.wp execOp
  simp [ho, Instr.alloc, newVar, newRow, hz, Value.cells]
  exact hK _ _ h

/-- 'build' of a struct out of two, three, or no parts. -/
theorem wpList_build2 {P : Program} {ops : Array Oper} {rest : List Oper} {o : Oper} {a : Act} {w : World} {Q : Exit → Act → World → Prop} (hgd : o.guard = none) (t : TypeId) (i j : Nat) (x y : Operand) (ho : o.op = .build t #[(i, x), (j, y)])
    (u v : Value) (ex : a.eval x = u) (ey : a.eval y = v) (cells : Array Value) (hf : P.built t [(i, u), (j, v)] = some cells) (h : wpList P ops Q rest (a.put o.dst (.agg cells)) w) : wpList P ops Q (o :: rest) a w :=
  wpList_buildTo hgd t _ ho _ rfl cells (by simpa [ex, ey] using hf) h

theorem wpList_build3 {P : Program} {ops : Array Oper} {rest : List Oper} {o : Oper} {a : Act} {w : World} {Q : Exit → Act → World → Prop} (hgd : o.guard = none) (t : TypeId) (i j k : Nat) (x y z : Operand) (ho : o.op = .build t #[(i, x), (j, y), (k, z)])
    (u v s : Value) (ex : a.eval x = u) (ey : a.eval y = v) (ez : a.eval z = s) (cells : Array Value) (hf : P.built t [(i, u), (j, v), (k, s)] = some cells) (h : wpList P ops Q rest (a.put o.dst (.agg cells)) w) : wpList P ops Q (o :: rest) a w :=
  wpList_buildTo hgd t _ ho _ rfl cells (by simpa [ex, ey, ez] using hf) h

theorem wpList_build0 {P : Program} {ops : Array Oper} {rest : List Oper} {o : Oper} {a : Act} {w : World} {Q : Exit → Act → World → Prop} (hgd : o.guard = none) (t : TypeId) (ho : o.op = .build t #[])
    (cells : Array Value) (hf : P.built t [] = some cells) (h : wpList P ops Q rest (a.put o.dst (.agg cells)) w) : wpList P ops Q (o :: rest) a w :=
  wpList_buildTo hgd t _ ho _ rfl cells (by simpa using hf) h

theorem below_setRow {B g : Nat} {a w : World} (h : Below B a w) (hg : B ≤ g) (cs : Array Value) : Below B a (w.setRow g cs) :=
  ⟨h.os, h.tape, h.output, by simpa [World.setRow] using h.size, fun k hk => by
    rw [← h.block k hk]
    simp [World.setRow, Array.getElem?_modify, show ¬ g = k by omega]⟩

theorem zero37_info : (Try.prog.info? 37).map (fun i => (i.zero, i.size)) = some (some (.agg #[.int .u8 0, .int .u8 0, .int .u8 0, .int .u8 0, .int .u8 0, .int .u8 0, .int .u8 0, .int .u8 0, .int .u8 0, .int .u8 0, .int .u8 0, .int .u8 0, .int .u8 0, .int .u8 0, .int .u8 0, .int .u8 0, .int .u8 0, .int .u8 0, .int .u8 0, .int .u8 0, .string ⟨#[]⟩, .string ⟨#[]⟩, .int .i64 0, .pointer none, .int .u8 0, .int .u8 0, .int .u8 0, .int .u8 0, .int .u8 0, .int .u8 0, .int .u8 0, .int .u8 0, .int .u8 0, .int .u8 0, .int .u8 0, .int .u8 0, .int .u8 0, .int .u8 0, .int .u8 0, .int .u8 0, .int .u8 0, .int .u8 0, .int .u8 0, .int .u8 0, .string ⟨#[]⟩, .pointer none, .pointer none, .pointer none, .pointer none, .int .i64 0, .int .i64 0, .bool false, .bool false, .bool false, .int .i64 0]), 55) := by kernel_rfl
theorem zero37 : ∃ Z : Array Value, Z.size = 55 ∧ ∀ w, (zeroValue 37).run Try.prog w = .ok (.agg Z) w := ⟨_, rfl, (zero_of_info zero37_info).1⟩

theorem built45 : ∃ Z, Try.prog.built 45 [] = some Z := Option.isSome_iff_exists.1 (by kernel_rfl)

/-- A request comes back. -/
def IsReq (e : Ending) (T : Array Value) (u k : Bool) : Prop := ∃ R, e = .returned (.agg R) ∧ Req R T u k

set_option maxRecDepth 100000 in
set_option maxHeartbeats 400000 in
theorem mkReq (T : Array Value) (hT : T.size = 21) (h1 : T.all (·.oneCell') = true) (u : Bool) (w : World) :
    Calls Try.prog 8 #[.agg T, .bool u] w fun e w' => IsReq e T u false ∧ Below w.heap.size w w' := by
  obtain ⟨Z, hZ, hz⟩ := zero37
  obtain ⟨R, hR, hq⟩ := req_plain T u hT h1
  have hi26 : (Try.prog.info? 26).map (·.size) = some T.size := by rw [hT]; exact Try.size26
  have hi37 : (Try.prog.info? 37).map (·.size) = some R.size := by rw [hq.size]; exact Try.size37
  have HT := heap_alloc2_old w (.cells T 26) (.cells Z 37)
  have HZ := heap_alloc2_new w (.cells T 26) (.cells Z 37)
  go_enter Try.func8, Try.ntmps8
  go_wp2_with (first
    | (refine wpList_alloc_row rfl 37 rfl Z hz ?_)
    | (refine wpList_load_row rfl 26 _ rfl w.heap.size rfl 26 T (0, 0) _ HT Try.underlying26 rfl hi26 ?_)
    | (refine wpList_build2 rfl 37 0 12 _ _ rfl (.agg T) (.bool u) rfl rfl R hR ?_)
    | (refine wpList_store_row rfl 37 _ _ rfl (w.heap.size + 1) R rfl rfl 37 Z HZ hi37 (by rw [hZ, hq.size]) hq.one ?_))
  refine bodyPost_ret (v := .agg R) (results_cell_row Try.results8 _ _ (w.heap.size + 1) 37 R (0, 0) _ rfl (setRow_heap _ _ _ _ _ _ HZ) Try.underlying37 rfl hi37) rfl ⟨⟨R, rfl, hq⟩, ?_⟩
  exact below_setRow (((Below.refl _ _).alloc (Nat.le_refl _) _).alloc (by simp) _) (by omega) _

set_option maxRecDepth 100000 in
set_option maxHeartbeats 400000 in
theorem mkWalk (T : Array Value) (hT : T.size = 21) (h1 : T.all (·.oneCell') = true) (u : Bool) (w : World) :
    Calls Try.prog 7 #[.agg T, .bool u] w fun e w' => IsReq e T u true ∧ Below w.heap.size w w' := by
  obtain ⟨Z, hZ, hz⟩ := zero37
  obtain ⟨K45, hK⟩ := built45
  obtain ⟨R, hR, hq⟩ := req_walk T u ⟨w.heap.size + 1 + 1, 0, none⟩ hT h1
  have hi26 : (Try.prog.info? 26).map (·.size) = some T.size := by rw [hT]; exact Try.size26
  have hi37 : (Try.prog.info? 37).map (·.size) = some R.size := by rw [hq.size]; exact Try.size37
  have HT := heap_alloc2_old w (.cells T 26) (.cells Z 37)
  have HZ : (((w.alloc (.cells T 26)).alloc (.cells Z 37)).alloc (.cells K45 45)).heap[w.heap.size + 1]? = some (.cells Z 37 (0, 0)) := by
    rw [Below.heap_alloc _ _ _ (by simp)]; exact heap_alloc2_new w (.cells T 26) (.cells Z 37)
  go_enter Try.func7, Try.ntmps7
  go_wp2_with (first
    | (refine wpList_alloc_row rfl 37 rfl Z hz ?_)
    | (refine wpList_load_row rfl 26 _ rfl w.heap.size rfl 26 T (0, 0) _ HT Try.underlying26 rfl hi26 ?_)
    | (refine wpList_build0 rfl 45 rfl K45 hK ?_)
    | (refine wpList_build3 rfl 37 0 12 3 _ _ _ rfl (.agg T) (.bool u) (.pointer (some ⟨w.heap.size + 1 + 1, 0, none⟩)) rfl rfl rfl R hR ?_)
    | (refine wpList_store_row rfl 37 _ _ rfl (w.heap.size + 1) R rfl rfl 37 Z HZ hi37 (by rw [hZ, hq.size]) hq.one ?_))
  refine bodyPost_ret (v := .agg R) (results_cell_row Try.results7 _ _ (w.heap.size + 1) 37 R (0, 0) _ rfl (setRow_heap _ _ _ _ _ _ HZ) Try.underlying37 rfl hi37) rfl ⟨⟨R, rfl, hq⟩, ?_⟩
  exact below_setRow ((((Below.refl _ _).alloc (Nat.le_refl _) _).alloc (by simp) _).alloc (by simp; omega) _) (by omega) _

end Go.Proofs.Qxb6608839a
