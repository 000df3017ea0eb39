/-
  THE WALKS OF ZZansweredBy, zzAnswered, zzBytes.
-/
import Derived.Test.Qxb6608839aAnsW2
import Derived.Deep.RegionHeld3
namespace Go.Proofs.Qxb6608839a
open Go Go.RowKit

/-- The cells of a block. -/
def rowAt (w : World) (b : Nat) : Array Value := match w.heap[b]? with
  | some (.cells cs _ _) => cs
  | _ => #[]

theorem rowAt_eq {w : World} {b : Nat} {cs : Array Value} {t : TypeId} {f : Nat × Nat} (h : w.heap[b]? = some (.cells cs t f)) : rowAt w b = cs := by
  unfold rowAt; rw [h]

theorem rowAt_below {w w' : World} {b N : Nat} (h : Below N w w') (hb : b < N) : rowAt w' b = rowAt w b := by
  unfold rowAt; rw [h.block b hb]

theorem range_of_rowAt {w : World} {b : Nat} {X : Array Value} (h : rowAt w b = X) : w.rangeAt b 0 X.toList := by
  intro j v hv
  rw [Nat.zero_add]
  unfold rowAt at h
  split at h
  · next cs t f e =>
    subst h
    rw [cell_of_row w b j cs t f e]
    simpa using hv
  · subst h
    simp at hv

/-- A whole block, read: at a plain region's list. -/
theorem wpList_load_at {P : Program} {ops : Array Oper} {rest : List Oper} {o : Oper} {a : Act} {w : World} {Q : Exit → Act → World → Prop} (hgd : o.guard = none) (ty : TypeId) (x : Operand) (ho : o.op = .load ty x)
    (b : Nat) (hx : a.eval x = .pointer (some ⟨b, 0, none⟩)) (X : Array Value) (d : TypeDesc) (hr : rowAt w b = X) (hu : P.underlying ty = some d) (hd : d.isRow = true) (hi : (P.info? ty).map (·.size) = some X.size)
    (h : wpList P ops Q rest (a.put o.dst (.agg X)) w) : wpList P ops Q (o :: rest) a w :=
  wpList_load_mid hgd ty x ho b 0 hx X.toList d (range_of_rowAt hr) hu hd (by rw [Array.length_toList]; exact hi) h

/-- A whole block, read: in a region that draws its order. -/
theorem yields_row {P : Program} {ops : Array Oper} {S : World → Prop} {o : Oper} {a : Act} (hw : Region.wanted o (yielded ops a.tmps) = true) (ty : TypeId) (x : Operand) (ho : o.op = .load ty x)
    (b : Nat) (hx : a.eval x = .pointer (some ⟨b, 0, none⟩)) (X : Array Value) (d : TypeDesc) (hS : ∀ w, S w → rowAt w b = X) (hu : P.underlying ty = some d) (hd : d.isRow = true) (hi : (P.info? ty).map (·.size) = some X.size) :
    YieldsIf P ops S o (.agg X) a :=
  yieldsIf_load_mid hw ty x ho b 0 hx X.toList d (fun w h => range_of_rowAt (hS w h)) hu hd (by rw [Array.length_toList]; exact hi)

/-- 'wpAnyH_take', the operation's temporary said outright. -/
theorem takeD {P : Program} {ops : Array Oper} {Q : Exit → Act → World → Prop} {md : Region.Mode} {S : World → Prop} {i : Nat} {oi : Oper} {d : Option Tmp} {v : Value} {fuel : Nat} {listed : Array Bool} {a : Act} {w : World} (hi : ops[i]? = some oi) (hd : oi.dst = d)
    (hs : Region.noSelect ops = true) (hf : Region.free md ops listed i = true) (hr : (Region.ready md ops listed).contains i = true)
    (hQ : ∀ c a w, Q (.panic c) (a.put d v) w → Q (.panic c) a w) (hy : YieldsIf P ops S oi v a) (hS : S w)
    (h : wpAnyH P md ops Q S fuel (listed.setIfInBounds i true) (a.put d v) w) : wpAnyH P md ops Q S (fuel + 1) listed a w := by
  subst hd
  exact wpAnyH_take hi hs hf hr hQ hy hS h

set_option maxRecDepth 100000 in
set_option maxHeartbeats 400000 in
theorem zzAnsweredBy (R : Array Value) (u k : Bool) (xs ys : List UInt8) (s t : ByteArray) (hx : xs.length = 20) (hy : ys.length = 20) (hq : Req R (pa xs s) u k) (w : World) :
    Calls Try.prog 6 #[.agg R, .agg (pa ys t)] w fun e w' => e = .returned (.bool (ans u k xs s ys t)) ∧ Below w.heap.size w w' := by
  have hb : Below w.heap.size w ((w.alloc (.cells R 37)).alloc (.cells (pa ys t) 26)) := ((Below.refl _ _).alloc (Nat.le_refl _) _).alloc (by simp) _
  have HS := hidE (show ((w.alloc (.cells R 37)).alloc (.cells (pa ys t) 26)).heap.size = w.heap.size + 1 + 1 by simp)
  have HR := heap_alloc2_old w (.cells R 37) (.cells (pa ys t) 26)
  have HP := heap_alloc2_new w (.cells R 37) (.cells (pa ys t) 26)
  have hi37 : (Try.prog.info? 37).map (·.size) = some R.size := by rw [hq.size]; exact Try.size37
  have hi26 : (Try.prog.info? 26).map (·.size) = some (pa ys t).size := by rw [pa_size hy]; exact Try.size26
  have HC := hidE (answeredBy R u k xs ys s t hx hy hq ((w.alloc (.cells R 37)).alloc (.cells (pa ys t) 26)))
  clear hq
  go_enter Try.func6, Try.ntmps6
  go_wp2_with (first
    | (refine wpList_load_row rfl 37 _ rfl w.heap.size rfl 37 R (0, 0) _ HR Try.underlying37 rfl hi37 ?_)
    | (refine wpList_load_row rfl 26 _ rfl (w.heap.size + 1) rfl 26 (pa ys t) (0, 0) _ HP Try.underlying26 rfl hi26 ?_))
  refine HC.out.mono ?_
  rintro e w1 ⟨rfl, hb1⟩
  have hbel : Below w.heap.size w w1 := hb.trans (hb1.mono (by rw [HS.out]; omega))
  clear hb1 HC HR HP hb HS
  go_wp2
  go_ret
  exact ⟨rfl, hbel⟩

/-- What the drawn regions of zzAnswered hold. -/
theorem keepZ {w w0 w1 : World} {X Y : Array Value} (h : rowAt w0 w.heap.size = X ∧ rowAt w0 (w.heap.size + 1) = Y ∧ w.heap.size + 1 < w0.heap.size ∧ Below w.heap.size w w0) (hb : Below w0.heap.size w0 w1) :
    rowAt w1 w.heap.size = X ∧ rowAt w1 (w.heap.size + 1) = Y ∧ w.heap.size + 1 < w1.heap.size ∧ Below w.heap.size w w1 := by
  obtain ⟨h1, h2, h3, h4⟩ := h
  have := hb.size
  exact ⟨(rowAt_below hb (by omega)).trans h1, (rowAt_below hb h3).trans h2, by omega, h4.trans (hb.mono (by omega))⟩

set_option maxRecDepth 100000 in
set_option maxHeartbeats 1000000 in
theorem zzAnswered (u k : Bool) (xs ys : List UInt8) (s t : ByteArray) (hx : xs.length = 20) (hy : ys.length = 20) (w : World) :
    Calls Try.prog 5 #[.agg (pa xs s), .bool u, .bool k, .agg (pa ys t)] w fun e w' => e = .returned (.bool (ans u k xs s ys t)) ∧ Below w.heap.size w w' := by
  have h0 : rowAt ((w.alloc (.cells (pa xs s) 26)).alloc (.cells (pa ys t) 26)).drew w.heap.size = pa xs s ∧ rowAt ((w.alloc (.cells (pa xs s) 26)).alloc (.cells (pa ys t) 26)).drew (w.heap.size + 1) = pa ys t ∧ w.heap.size + 1 < ((w.alloc (.cells (pa xs s) 26)).alloc (.cells (pa ys t) 26)).drew.heap.size ∧ Below w.heap.size w ((w.alloc (.cells (pa xs s) 26)).alloc (.cells (pa ys t) 26)).drew :=
    ⟨rowAt_eq (heap_alloc2_old w (.cells (pa xs s) 26) (.cells (pa ys t) 26)), rowAt_eq (heap_alloc2_new w (.cells (pa xs s) 26) (.cells (pa ys t) 26)), by simp, (((Below.refl _ _).alloc (Nat.le_refl _) _).alloc (by simp) _).drew⟩
  have hX : (pa xs s).size = 21 := pa_size hx
  have hY : (pa ys t).size = 21 := pa_size hy
  have HI1 := hidE (show (Try.prog.info? 26).map (·.size) = some (pa xs s).size by rw [hX]; exact Try.size26)
  have HI2 := hidE (show (Try.prog.info? 26).map (·.size) = some (pa ys t).size by rw [hY]; exact Try.size26)
  cases k
  · go_enter Try.func5, Try.ntmps5
    go_wp2
    refine wp_region_noPanic ?_
    refine wp_region_held_drew (S := (fun w' => rowAt w' w.heap.size = pa xs s ∧ rowAt w' (w.heap.size + 1) = pa ys t ∧ w.heap.size + 1 < w'.heap.size ∧ Below w.heap.size w w')) (by kernel_rfl) h0 (fun hHeld => ?_)
    clear h0
    refine takeD (i := 0) (d := some 15) (v := .agg (pa xs s)) rfl (by rfl) (by kernel_rfl) (by kernel_rfl) (by kernel_rfl) (fun _ _ _ h => h) (yields_row (by rfl) 26 (.tmp 4) (by rfl) w.heap.size (by rfl) (pa xs s) _ (fun _ h => h.1) Try.underlying26 rfl HI1.out) hHeld ?_
    simp only [Act.put, List.setIfInBounds_toArray, List.set_cons_zero, List.set_cons_succ]
    refine takeD (i := 1) (d := some 16) (v := .bool u) rfl (by rfl) (by kernel_rfl) (by kernel_rfl) (by kernel_rfl) (fun _ _ _ h => h) (Or.inl ⟨by rfl, fun w' hSw => by (try dsimp only at hSw); go_simp⟩) hHeld ?_
    simp only [Act.put, List.setIfInBounds_toArray, List.set_cons_zero, List.set_cons_succ]
    refine takeD (i := 3) (d := some 18) (v := .agg (pa ys t)) rfl (by rfl) (by kernel_rfl) (by kernel_rfl) (by kernel_rfl) (fun _ _ _ h => h) (yields_row (by rfl) 26 (.tmp 7) (by rfl) (w.heap.size + 1) (by rfl) (pa ys t) _ (fun _ h => h.2.1) Try.underlying26 rfl HI2.out) hHeld ?_
    simp only [Act.put, List.setIfInBounds_toArray, List.set_cons_zero, List.set_cons_succ]
    refine wpAnyH_ready (rs := [2]) (by kernel_rfl) (by simp) ?_
    refine AllReadyH.cons rfl (fun K hK => ?_) AllReadyH.nil
    go_simp
    go_wp2_with fail
    refine (mkReq (pa xs s) hX (pa_one xs s) u _).mono ?_
    rintro e w1 ⟨⟨R, rfl, hq⟩, hb1⟩
    have k1 := keepZ hHeld hb1
    clear hHeld hb1
    go_wp2
    refine hK.out _ _ k1 (fun hHeld => ?_)
    clear hK k1
    refine wpAnyH_ready (rs := [4]) (by kernel_rfl) (by simp) ?_
    refine AllReadyH.cons rfl (fun K hK => ?_) AllReadyH.nil
    go_simp
    go_wp2_with fail
    refine (zzAnsweredBy R u false xs ys s t hx hy hq _).mono ?_
    rintro e w2 ⟨rfl, hb2⟩
    have k2 := keepZ hHeld hb2
    clear hHeld hb2
    go_wp2
    refine hK.out _ _ k2 (fun hHeld => ?_)
    clear hK k2
    refine takeD (i := 5) (d := some 8) (v := .bool (ans u false xs s ys t)) rfl (by rfl) (by kernel_rfl) (by kernel_rfl) (by kernel_rfl) (fun _ _ _ h => h) (Or.inl ⟨by rfl, fun w' hSw => by (try dsimp only at hSw); go_simp⟩) hHeld ?_
    simp only [Act.put, List.setIfInBounds_toArray, List.set_cons_zero, List.set_cons_succ]
    refine wpAnyH_done (by kernel_rfl) ?_ _
    refine NoPanic.normal ?_
    go_wp2
    go_ret
    exact ⟨rfl, hHeld.2.2.2⟩
  · go_enter Try.func5, Try.ntmps5
    go_wp2
    refine wp_region_noPanic ?_
    refine wp_region_held_drew (S := (fun w' => rowAt w' w.heap.size = pa xs s ∧ rowAt w' (w.heap.size + 1) = pa ys t ∧ w.heap.size + 1 < w'.heap.size ∧ Below w.heap.size w w')) (by kernel_rfl) h0 (fun hHeld => ?_)
    clear h0
    refine takeD (i := 0) (d := some 10) (v := .agg (pa xs s)) rfl (by rfl) (by kernel_rfl) (by kernel_rfl) (by kernel_rfl) (fun _ _ _ h => h) (yields_row (by rfl) 26 (.tmp 4) (by rfl) w.heap.size (by rfl) (pa xs s) _ (fun _ h => h.1) Try.underlying26 rfl HI1.out) hHeld ?_
    simp only [Act.put, List.setIfInBounds_toArray, List.set_cons_zero, List.set_cons_succ]
    refine takeD (i := 1) (d := some 11) (v := .bool u) rfl (by rfl) (by kernel_rfl) (by kernel_rfl) (by kernel_rfl) (fun _ _ _ h => h) (Or.inl ⟨by rfl, fun w' hSw => by (try dsimp only at hSw); go_simp⟩) hHeld ?_
    simp only [Act.put, List.setIfInBounds_toArray, List.set_cons_zero, List.set_cons_succ]
    refine takeD (i := 3) (d := some 13) (v := .agg (pa ys t)) rfl (by rfl) (by kernel_rfl) (by kernel_rfl) (by kernel_rfl) (fun _ _ _ h => h) (yields_row (by rfl) 26 (.tmp 7) (by rfl) (w.heap.size + 1) (by rfl) (pa ys t) _ (fun _ h => h.2.1) Try.underlying26 rfl HI2.out) hHeld ?_
    simp only [Act.put, List.setIfInBounds_toArray, List.set_cons_zero, List.set_cons_succ]
    refine wpAnyH_ready (rs := [2]) (by kernel_rfl) (by simp) ?_
    refine AllReadyH.cons rfl (fun K hK => ?_) AllReadyH.nil
    go_simp
    go_wp2_with fail
    refine (mkWalk (pa xs s) hX (pa_one xs s) u _).mono ?_
    rintro e w1 ⟨⟨R, rfl, hq⟩, hb1⟩
    have k1 := keepZ hHeld hb1
    clear hHeld hb1
    go_wp2
    refine hK.out _ _ k1 (fun hHeld => ?_)
    clear hK k1
    refine wpAnyH_ready (rs := [4]) (by kernel_rfl) (by simp) ?_
    refine AllReadyH.cons rfl (fun K hK => ?_) AllReadyH.nil
    go_simp
    go_wp2_with fail
    refine (zzAnsweredBy R u true xs ys s t hx hy hq _).mono ?_
    rintro e w2 ⟨rfl, hb2⟩
    have k2 := keepZ hHeld hb2
    clear hHeld hb2
    go_wp2
    refine hK.out _ _ k2 (fun hHeld => ?_)
    clear hK k2
    refine takeD (i := 5) (d := some 8) (v := .bool (ans u true xs s ys t)) rfl (by rfl) (by kernel_rfl) (by kernel_rfl) (by kernel_rfl) (fun _ _ _ h => h) (Or.inl ⟨by rfl, fun w' hSw => by (try dsimp only at hSw); go_simp⟩) hHeld ?_
    simp only [Act.put, List.setIfInBounds_toArray, List.set_cons_zero, List.set_cons_succ]
    refine wpAnyH_done (by kernel_rfl) ?_ _
    refine NoPanic.normal ?_
    go_wp2
    go_ret
    exact ⟨rfl, hHeld.2.2.2⟩

/-- A bool comes back. -/
def IsB (e : Ending) : Prop := ∃ b, e = .returned (.bool b)

set_option maxRecDepth 100000 in
set_option maxHeartbeats 400000 in
theorem zzBytes (X Y : Array Value) (s t : ByteArray) (w : World) :
    Calls Try.prog 4 #[.agg X, .string s, .agg Y, .string t] w fun e w' => IsB e ∧ Below w.heap.size w w' := by
  have hb : Below w.heap.size w ((w.alloc (.cells X 22)).alloc (.cells Y 22)) := ((Below.refl _ _).alloc (Nat.le_refl _) _).alloc (by simp) _
  go_enter Try.func4, Try.ntmps4
  go_wp2
  all_goals go_ret
  all_goals exact ⟨⟨_, rfl⟩, hb⟩

end Go.Proofs.Qxb6608839a
