/-
  THE WALKS OF ZZansweredBy, zzAnswered, zzBytes.
-/
import Derived.Test.Qxb6608839aAnsW2
import Derived.Deep.RegionHeld3
namespace Go.Proofs.Qxb6608839a
open Go Go.RowKit

/-- The cells of a block. -/
def rowAt (w : World) (b : Nat) : Array Value := match w.heap[b]? with
  | some (.cells cs _ _) => cs
  | _ => #[]

theorem rowAt_eq {w : World} {b : Nat} {cs : Array Value} {t : TypeId} {f : Nat × Nat} (h : w.heap[b]? = some (.cells cs t f)) : rowAt w b = cs := by
  unfold rowAt; rw [h]

theorem rowAt_below {w w' : World} {b N : Nat} (h : Below N w w') (hb : b < N) : rowAt w' b = rowAt w b := by
  unfold rowAt; rw [h.block b hb]

/-- A whole block, read. -/
theorem load_rowAt {P : Program} (w : World) (b n : Nat) (hn : 0 < n) (h : (rowAt w b).size = n) : (loadCellsFrom ⟨b, 0, none⟩ 0 n #[]).run P w = .ok (rowAt w b) w := by
  unfold rowAt at h ⊢
  split at h
  · next cs t f e =>
    subst h
    have := run_loadCells_list (P := P) w ⟨b, 0, none⟩ cs.toList (fun j v hv => by
      rw [Addr.add_lit, Nat.zero_add, cell_of_row w b j cs t f e]
      simpa using hv)
    simpa [loadCells] using this
  · simp at h; omega

/-- The load of a long block under a name of its own: the walk does not open it cell by cell. -/
def rowOf (a : Addr) (n : Nat) : Sem (Array Value) := loadCellsFrom a 0 n #[]
theorem fold20 (a : Addr) : loadCellsFrom a 0 20 #[] = rowOf a 20 := rfl
theorem fold21 (a : Addr) : loadCellsFrom a 0 21 #[] = rowOf a 21 := rfl
theorem run_row20 {P : Program} (w : World) (b : Nat) (h : (rowAt w b).size = 20) : (rowOf ⟨b, 0, none⟩ 20).run P w = .ok (rowAt w b) w := load_rowAt w b 20 (by omega) h
theorem run_row21 {P : Program} (w : World) (b : Nat) (h : (rowAt w b).size = 21) : (rowOf ⟨b, 0, none⟩ 21).run P w = .ok (rowAt w b) w := load_rowAt w b 21 (by omega) h

set_option maxRecDepth 100000 in
set_option maxHeartbeats 400000 in
theorem zzAnsweredBy (R : Array Value) (u k : Bool) (xs ys : List UInt8) (s t : ByteArray) (hx : xs.length = 20) (hy : ys.length = 20) (hq : Req R (pa xs s) u k) (w : World) :
    Calls Try.prog 6 #[.agg R, .agg (pa ys t)] w fun e w' => e = .returned (.bool (ans u k xs s ys t)) ∧ Below w.heap.size w w' := by
  have hb : Below w.heap.size w ((w.alloc (.cells R 37)).alloc (.cells (pa ys t) 26)) := ((Below.refl _ _).alloc (Nat.le_refl _) _).alloc (by simp) _
  have HS := hidE (show ((w.alloc (.cells R 37)).alloc (.cells (pa ys t) 26)).heap.size = w.heap.size + 1 + 1 by simp)
  have HR := heap_alloc2_old w (.cells R 37) (.cells (pa ys t) 26)
  have HP := heap_alloc2_new w (.cells R 37) (.cells (pa ys t) 26)
  have hi37 : (Try.prog.info? 37).map (·.size) = some R.size := by rw [hq.size]; exact Try.size37
  have hi26 : (Try.prog.info? 26).map (·.size) = some (pa ys t).size := by rw [pa_size hy]; exact Try.size26
  have HC := hidE (answeredBy R u k xs ys s t hx hy hq ((w.alloc (.cells R 37)).alloc (.cells (pa ys t) 26)))
  clear hq
  go_enter Try.func6, Try.ntmps6
  go_wp2_with (first
    | (refine wpList_load_row rfl 37 _ rfl w.heap.size rfl 37 R (0, 0) _ HR Try.underlying37 rfl hi37 ?_)
    | (refine wpList_load_row rfl 26 _ rfl (w.heap.size + 1) rfl 26 (pa ys t) (0, 0) _ HP Try.underlying26 rfl hi26 ?_))
  refine HC.out.mono ?_
  rintro e w1 ⟨rfl, hb1⟩
  have hbel : Below w.heap.size w w1 := hb.trans (hb1.mono (by rw [HS.out]; omega))
  clear hb1 HC HR HP hb HS
  go_wp2
  go_ret
  exact ⟨rfl, hbel⟩

/-- What the drawn regions of zzAnswered hold. -/
theorem keepZ {w w0 w1 : World} {X Y : Array Value} (h : rowAt w0 w.heap.size = X ∧ rowAt w0 (w.heap.size + 1) = Y ∧ w.heap.size + 1 < w0.heap.size ∧ Below w.heap.size w w0) (hb : Below w0.heap.size w0 w1) :
    rowAt w1 w.heap.size = X ∧ rowAt w1 (w.heap.size + 1) = Y ∧ w.heap.size + 1 < w1.heap.size ∧ Below w.heap.size w w1 := by
  obtain ⟨h1, h2, h3, h4⟩ := h
  have := hb.size
  exact ⟨(rowAt_below hb (by omega)).trans h1, (rowAt_below hb h3).trans h2, by omega, h4.trans (hb.mono (by omega))⟩

attribute [local go_sem ↓] fold20 fold21
attribute [local go_sem] run_row20 run_row21

set_option maxRecDepth 100000 in
set_option maxHeartbeats 1000000 in
theorem zzAnswered (u k : Bool) (xs ys : List UInt8) (s t : ByteArray) (hx : xs.length = 20) (hy : ys.length = 20) (w : World) :
    Calls Try.prog 5 #[.agg (pa xs s), .bool u, .bool k, .agg (pa ys t)] w fun e w' => e = .returned (.bool (ans u k xs s ys t)) ∧ Below w.heap.size w w' := by
  have h0 : rowAt ((w.alloc (.cells (pa xs s) 26)).alloc (.cells (pa ys t) 26)).drew w.heap.size = pa xs s ∧ rowAt ((w.alloc (.cells (pa xs s) 26)).alloc (.cells (pa ys t) 26)).drew (w.heap.size + 1) = pa ys t ∧ w.heap.size + 1 < ((w.alloc (.cells (pa xs s) 26)).alloc (.cells (pa ys t) 26)).drew.heap.size ∧ Below w.heap.size w ((w.alloc (.cells (pa xs s) 26)).alloc (.cells (pa ys t) 26)).drew :=
    ⟨rowAt_eq (heap_alloc2_old w (.cells (pa xs s) 26) (.cells (pa ys t) 26)), rowAt_eq (heap_alloc2_new w (.cells (pa xs s) 26) (.cells (pa ys t) 26)), by simp, (((Below.refl _ _).alloc (Nat.le_refl _) _).alloc (by simp) _).drew⟩
  have hX : (pa xs s).size = 21 := pa_size hx
  have hY : (pa ys t).size = 21 := pa_size hy
  cases k
  · go_enter Try.func5, Try.ntmps5
    go_wp2
    go_region_held3 (fun w' => rowAt w' w.heap.size = pa xs s ∧ rowAt w' (w.heap.size + 1) = pa ys t ∧ w.heap.size + 1 < w'.heap.size ∧ Below w.heap.size w w') (assumption)
      (first
        | (go_at_call 8; refine (mkReq (pa xs s) hX (pa_one xs s) u _).mono ?_; rintro e w1 ⟨⟨R, rfl, hq⟩, hb1⟩; have hk1 := keepZ (by assumption) hb1)
        | (go_at_call 6; refine (zzAnsweredBy _ u false xs ys s t hx hy (by assumption) _).mono ?_; rintro e w2 ⟨rfl, hb2⟩; have hk2 := keepZ (by assumption) hb2))
    go_wp2
    go_ret
    exact ⟨rfl, hk2.2.2.2⟩
  · go_enter Try.func5, Try.ntmps5
    go_wp2
    go_region_held3 (fun w' => rowAt w' w.heap.size = pa xs s ∧ rowAt w' (w.heap.size + 1) = pa ys t ∧ w.heap.size + 1 < w'.heap.size ∧ Below w.heap.size w w') (assumption)
      (first
        | (go_at_call 7; refine (mkWalk (pa xs s) hX (pa_one xs s) u _).mono ?_; rintro e w1 ⟨⟨R, rfl, hq⟩, hb1⟩; have hk1 := keepZ (by assumption) hb1)
        | (go_at_call 6; refine (zzAnsweredBy _ u true xs ys s t hx hy (by assumption) _).mono ?_; rintro e w2 ⟨rfl, hb2⟩; have hk2 := keepZ (by assumption) hb2))
    go_wp2
    go_ret
    exact ⟨rfl, hk2.2.2.2⟩

/-- A bool comes back. -/
def IsB (e : Ending) : Prop := ∃ b, e = .returned (.bool b)

set_option maxRecDepth 100000 in
set_option maxHeartbeats 400000 in
theorem zzBytes (X Y : Array Value) (s t : ByteArray) (w : World) :
    Calls Try.prog 4 #[.agg X, .string s, .agg Y, .string t] w fun e w' => IsB e ∧ Below w.heap.size w w' := by
  have hb : Below w.heap.size w ((w.alloc (.cells X 22)).alloc (.cells Y 22)) := ((Below.refl _ _).alloc (Nat.le_refl _) _).alloc (by simp) _
  go_enter Try.func4, Try.ntmps4
  go_wp2
  all_goals go_ret
  all_goals exact ⟨⟨_, rfl⟩, hb⟩

end Go.Proofs.Qxb6608839a
