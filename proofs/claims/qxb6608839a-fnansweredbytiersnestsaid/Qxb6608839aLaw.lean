/-
  THE WALK OF FnAnsweredByTiersNest.
-/
import Derived.Test.Qxb6608839aZzW
namespace Go.Proofs.Qxb6608839a
open Go Go.RowKit

theorem zero26_info : (Try.prog.info? 26).map (fun i => (i.zero, i.size)) = some (some (.agg #[.int .u8 0, .int .u8 0, .int .u8 0, .int .u8 0, .int .u8 0, .int .u8 0, .int .u8 0, .int .u8 0, .int .u8 0, .int .u8 0, .int .u8 0, .int .u8 0, .int .u8 0, .int .u8 0, .int .u8 0, .int .u8 0, .int .u8 0, .int .u8 0, .int .u8 0, .int .u8 0, .string ⟨#[]⟩]), 21) := by kernel_rfl
theorem zero26 : ∃ Z : Array Value, Z.size = 21 ∧ ∀ w, (zeroValue 26).run Try.prog w = .ok (.agg Z) w := ⟨_, rfl, (zero_of_info zero26_info).1⟩

theorem wpList_store_new {P : Program} {ops : Array Oper} {rest : List Oper} {o : Oper} {a : Act} {w : World} {Q : Exit → Act → World → Prop} (hgd : o.guard = none) (ty : TypeId) (x y : Operand) (ho : o.op = .store ty x y)
    (cells Z : Array Value) (hx : a.eval x = .pointer (some ⟨w.heap.size, 0, none⟩)) (hy : a.eval y = .agg cells) (hi : (P.info? ty).map (·.size) = some cells.size)
    (hZ : Z.size = cells.size) (h1 : cells.all (·.oneCell') = true) (h : ∀ w', w'.heap.size = w.heap.size + 1 → rowAt w' w.heap.size = cells → Below w.heap.size w w' → wpList P ops Q rest (a.put o.dst undef) w') : wpList P ops Q (o :: rest) a (w.alloc (.cells Z ty)) :=
  wpList_store_row hgd ty x y ho _ cells hx hy ty Z (heap_alloc_new w _) hi hZ h1 (by
    rw [World.setRow_alloc_new]
    exact h _ (by simp) (rowAt_eq (heap_alloc_new w _)) ((Below.refl _ _).alloc (Nat.le_refl _) _))

theorem rowAt_alloc {w : World} {b : Nat} {X : Array Value} (h : rowAt w b = X) (hb : b < w.heap.size) (o : Obj) : rowAt (w.alloc o) b = X :=
  (rowAt_below ((Below.refl _ _).alloc (Nat.le_refl _) o) hb).trans h

theorem rowAt_new (w : World) (X : Array Value) (t : TypeId) : rowAt (w.alloc (.cells X t)) w.heap.size = X := rowAt_eq (heap_alloc_new w _)

/-- What the law's walk holds of memory. -/
theorem keepF {w w0 w1 : World} {A B C : Nat} {V X Y Z U : Array Value} (h : rowAt w0 A = V ∧ rowAt w0 B = X ∧ rowAt w0 C = Y ∧ rowAt w0 (C + 1) = Z ∧ rowAt w0 (C + 1 + 1) = U ∧ (A < C ∧ B < C ∧ C + 1 + 1 < w0.heap.size ∧ w.heap.size ≤ w0.heap.size) ∧ Below w.heap.size w w0) (hb : Below w0.heap.size w0 w1) :
    rowAt w1 A = V ∧ rowAt w1 B = X ∧ rowAt w1 C = Y ∧ rowAt w1 (C + 1) = Z ∧ rowAt w1 (C + 1 + 1) = U ∧ (A < C ∧ B < C ∧ C + 1 + 1 < w1.heap.size ∧ w.heap.size ≤ w1.heap.size) ∧ Below w.heap.size w w1 := by
  obtain ⟨h1, h2, h3, h4, h5, ⟨ha, hbb, hc, hd⟩, h6⟩ := h
  have := hb.size
  exact ⟨(rowAt_below hb (by omega)).trans h1, (rowAt_below hb (by omega)).trans h2, (rowAt_below hb (by omega)).trans h3, (rowAt_below hb (by omega)).trans h4, (rowAt_below hb hc).trans h5, ⟨ha, hbb, by omega, by omega⟩, h6.trans (hb.mono hd)⟩

theorem eq_idIn {xs ys : List UInt8} (hx : xs.length = 20) (hy : ys.length = 20) (w : World) : (Op.equalIn 10000 22 (.agg (ida xs)) (.agg (ida ys))).run Try.prog w = .ok (xs == ys) w :=
  run_equalIn_bytes w 9998 22 5 20 Try.underlying22 Try.underlying5 (fun w => by kernel_rfl) xs ys hx hy

theorem ans_twin (xs ys : List UInt8) (s : ByteArray) : ans true false xs s ys s = true := by simp [ans]
theorem ans_named (xs ys : List UInt8) (s : ByteArray) : ans false false xs s ys s = (ys == xs) := by simp [ans]

attribute [local go_sem] guard22 eq_idIn

set_option maxRecDepth 100000 in
set_option maxHeartbeats 8000000 in
theorem law (xs ys : List UInt8) (s t : ByteArray) (hx : xs.length = 20) (hy : ys.length = 20) (w : World) :
    Calls Try.prog 3 #[.agg (ida xs), .string s, .agg (ida ys), .string t] w fun e w' => e = .returned (.bool true) ∧ Below w.heap.size w w' := by
  obtain ⟨Z, hZ, hz⟩ := zero26
  have hX : (ida xs).size = 20 := ida_size hx
  have hY : (ida ys).size = 20 := ida_size hy
  have hS1 : (pa xs s).size = 21 := pa_size hx
  have hS2 : (pa ys t).size = 21 := pa_size hy
  have hS3 : (pa ys s).size = 21 := pa_size hy
  have HX := hidE (show (Try.prog.info? 22).map (·.size) = some (ida xs).size by rw [hX]; exact Try.size22)
  have HY := hidE (show (Try.prog.info? 22).map (·.size) = some (ida ys).size by rw [hY]; exact Try.size22)
  have HI1 := hidE (show (Try.prog.info? 26).map (·.size) = some (pa xs s).size by rw [hS1]; exact Try.size26)
  have HI2 := hidE (show (Try.prog.info? 26).map (·.size) = some (pa ys t).size by rw [hS2]; exact Try.size26)
  have HI3 := hidE (show (Try.prog.info? 26).map (·.size) = some (pa ys s).size by rw [hS3]; exact Try.size26)
  have r1 : rowAt ((w.alloc (.cells (ida xs) 22)).alloc (.cells (ida ys) 22)) w.heap.size = ida xs := rowAt_eq (heap_alloc2_old w (.cells (ida xs) 22) (.cells (ida ys) 22))
  have r2 : rowAt ((w.alloc (.cells (ida xs) 22)).alloc (.cells (ida ys) 22)) (w.heap.size + 1) = ida ys := rowAt_eq (heap_alloc2_new w (.cells (ida xs) 22) (.cells (ida ys) 22))
  have HS := hidE (show ((w.alloc (.cells (ida xs) 22)).alloc (.cells (ida ys) 22)).heap.size = w.heap.size + 1 + 1 by simp)
  have hb : Below w.heap.size w ((w.alloc (.cells (ida xs) 22)).alloc (.cells (ida ys) 22)) := ((Below.refl _ _).alloc (Nat.le_refl _) _).alloc (by simp) _
  go_enter Try.func3, Try.ntmps3
  go_wp2_with (first
    | (refine wpList_load_at rfl 22 (.tmp 4) rfl (w.heap.size) (by rfl) (ida xs) _ r1 Try.underlying22 rfl HX.out ?_)
    | (refine wpList_load_at rfl 22 (.tmp 6) rfl (w.heap.size + 1) (by rfl) (ida ys) _ r2 Try.underlying22 rfl HY.out ?_))
  refine (zzBytes (ida xs) (ida ys) s t _).mono ?_
  rintro e w1 ⟨⟨b, rfl⟩, hb1⟩
  have q1 : rowAt w1 w.heap.size = ida xs := (rowAt_below hb1 (by rw [HS.out]; omega)).trans r1
  have q2 : rowAt w1 (w.heap.size + 1) = ida ys := (rowAt_below hb1 (by rw [HS.out]; omega)).trans r2
  have hbel1 : Below w.heap.size w w1 := hb.trans (hb1.mono (by rw [HS.out]; omega))
  have hs1 : w.heap.size + 1 < w1.heap.size := by have := hb1.size; rw [HS.out] at this; omega
  clear hb1 r1 r2 hb HS
  cases b
  · go_wp2
    go_ret
    exact ⟨rfl, hbel1⟩
  by_cases g1 : 65536 < s.size
  · have g3 : decide (65536 < (s.size : Int)) = true := decide_eq_true (by omega)
    clear g1
    go_wp2
    go_ret
    exact ⟨rfl, hbel1⟩
  have g3 : decide (65536 < (s.size : Int)) = false := decide_eq_false (by omega)
  clear g1
  by_cases g2 : 65536 < t.size
  · have g4 : decide (65536 < (t.size : Int)) = true := decide_eq_true (by omega)
    clear g2
    go_wp2
    go_ret
    exact ⟨rfl, hbel1⟩
  have g4 : decide (65536 < (t.size : Int)) = false := decide_eq_false (by omega)
  clear g2
  go_wp2_with (first
    | (refine wpList_alloc_row rfl 26 rfl Z hz ?_)
    | (refine wpList_load_at rfl 22 (.tmp 4) rfl (w.heap.size) (by rfl) (ida xs) _ q1 Try.underlying22 rfl HX.out ?_)
    | (refine wpList_build2 rfl 26 0 1 (.tmp 30) (.tmp 31) rfl (.agg (ida xs)) (.string s) (by rfl) (by rfl) (pa xs s) (built_peer hx) ?_)
    | (refine wpList_store_new rfl 26 (.tmp 9) (.tmp 32) rfl (pa xs s) Z (by rfl) (by rfl) HI1.out (by rw [hZ, hS1]) (pa_one _ _) ?_))
  intro w2 hz2 n1 hb2
  have p1 : rowAt w2 w.heap.size = ida xs := (rowAt_below hb2 (by omega)).trans q1
  have p2 : rowAt w2 (w.heap.size + 1) = ida ys := (rowAt_below hb2 hs1).trans q2
  have hbel2 : Below w.heap.size w w2 := hbel1.trans (hb2.mono (by omega))
  clear hb2 q1 q2 hbel1
  generalize w1.heap.size = C at *
  go_wp2_with (first
    | (refine wpList_alloc_row rfl 26 rfl Z hz ?_)
    | (refine wpList_load_at rfl 22 (.tmp 6) rfl (w.heap.size + 1) (by rfl) (ida ys) _ p2 Try.underlying22 rfl HY.out ?_)
    | (refine wpList_build2 rfl 26 0 1 (.tmp 33) (.tmp 34) rfl (.agg (ida ys)) (.string t) (by rfl) (by rfl) (pa ys t) (built_peer hy) ?_)
    | (refine wpList_store_new rfl 26 (.tmp 10) (.tmp 35) rfl (pa ys t) Z (by rfl) (by rfl) HI2.out (by rw [hZ, hS2]) (pa_one _ _) ?_))
  intro w3 hz3 n2 hb3
  have o1 : rowAt w3 w.heap.size = ida xs := (rowAt_below hb3 (by omega)).trans p1
  have o2 : rowAt w3 (w.heap.size + 1) = ida ys := (rowAt_below hb3 (by omega)).trans p2
  have o3 : rowAt w3 C = pa xs s := (rowAt_below hb3 (by omega)).trans n1
  have hbel3 : Below w.heap.size w w3 := hbel2.trans (hb3.mono (by omega))
  clear hb3 p1 p2 n1 hbel2 hz2
  go_wp2_with (first
    | (refine wpList_alloc_row rfl 26 rfl Z hz ?_)
    | (refine wpList_load_at rfl 22 (.tmp 6) rfl (w.heap.size + 1) (by rfl) (ida ys) _ o2 Try.underlying22 rfl HY.out ?_)
    | (refine wpList_build2 rfl 26 0 1 (.tmp 36) (.tmp 37) rfl (.agg (ida ys)) (.string s) (by rfl) (by rfl) (pa ys s) (built_peer hy) ?_)
    | (refine wpList_store_new rfl 26 (.tmp 11) (.tmp 38) rfl (pa ys s) Z (by rfl) (by rfl) HI3.out (by rw [hZ, hS3]) (pa_one _ _) ?_))
  intro w4 hz4 n3 hb4
  have k4 : rowAt w4 w.heap.size = ida xs ∧ rowAt w4 (w.heap.size + 1) = ida ys ∧ rowAt w4 C = pa xs s ∧ rowAt w4 (C + 1) = pa ys t ∧ rowAt w4 (C + 1 + 1) = pa ys s ∧ (w.heap.size < C ∧ w.heap.size + 1 < C ∧ C + 1 + 1 < w4.heap.size ∧ w.heap.size ≤ w4.heap.size) ∧ Below w.heap.size w w4 :=
    ⟨(rowAt_below hb4 (by omega)).trans o1, (rowAt_below hb4 (by omega)).trans o2, (rowAt_below hb4 (by omega)).trans o3, (rowAt_below hb4 (by omega)).trans n2, n3, ⟨by omega, hs1, by omega, by omega⟩, hbel3.trans (hb4.mono (by omega))⟩
  clear hb4 o1 o2 o3 n2 n3 hbel3 hz3 hz4 hs1 hz hZ g3 g4
  obtain ⟨b1, hb1⟩ : ∃ b, b = ans false false xs s ys t := ⟨_, rfl⟩
  obtain ⟨b2, hb2⟩ : ∃ b, b = ans true false xs s ys t := ⟨_, rfl⟩
  have Bb1 := hidE hb1
  have Bb2 := hidE hb2
  clear hb1 hb2
  go_wp2_with (first
    | (refine wpList_load_at rfl 26 (.tmp 9) rfl (C) (by rfl) (pa xs s) _ k4.2.2.1 Try.underlying26 rfl HI1.out ?_)
    | (refine wpList_load_at rfl 26 (.tmp 10) rfl (C + 1) (by rfl) (pa ys t) _ k4.2.2.2.1 Try.underlying26 rfl HI2.out ?_))
  refine (zzAnswered false false xs ys s t hx hy w4).mono ?_
  rintro e w5 ⟨he, hb5⟩
  obtain rfl : e = .returned (.bool b1) := he.trans (by rw [Bb1.out])
  have k5 := keepF k4 hb5
  clear k4 hb5 he
  go_wp2_with (first
    | (refine wpList_load_at rfl 26 (.tmp 9) rfl (C) (by rfl) (pa xs s) _ k5.2.2.1 Try.underlying26 rfl HI1.out ?_)
    | (refine wpList_load_at rfl 26 (.tmp 10) rfl (C + 1) (by rfl) (pa ys t) _ k5.2.2.2.1 Try.underlying26 rfl HI2.out ?_))
  refine (zzAnswered false true xs ys s t hx hy w5).mono ?_
  rintro e w6 ⟨he, hb6⟩
  obtain rfl : e = .returned (.bool b1) := he.trans (by rw [Bb1.out]; rfl)
  have k6 := keepF k5 hb6
  clear k5 hb6 he
  go_wp2_with (first
    | (refine wpList_load_at rfl 26 (.tmp 9) rfl (C) (by rfl) (pa xs s) _ k6.2.2.1 Try.underlying26 rfl HI1.out ?_)
    | (refine wpList_load_at rfl 26 (.tmp 10) rfl (C + 1) (by rfl) (pa ys t) _ k6.2.2.2.1 Try.underlying26 rfl HI2.out ?_))
  refine (zzAnswered true false xs ys s t hx hy w6).mono ?_
  rintro e w7 ⟨he, hb7⟩
  obtain rfl : e = .returned (.bool b2) := he.trans (by rw [Bb2.out])
  have k7 := keepF k6 hb7
  clear k6 hb7 he
  go_wp2_with (first
    | (refine wpList_load_at rfl 26 (.tmp 9) rfl (C) (by rfl) (pa xs s) _ k7.2.2.1 Try.underlying26 rfl HI1.out ?_)
    | (refine wpList_load_at rfl 26 (.tmp 10) rfl (C + 1) (by rfl) (pa ys t) _ k7.2.2.2.1 Try.underlying26 rfl HI2.out ?_))
  refine (zzAnswered true true xs ys s t hx hy w7).mono ?_
  rintro e w8 ⟨he, hb8⟩
  obtain rfl : e = .returned (.bool true) := he
  have k8 := keepF k7 hb8
  clear k7 hb8
  have k9 := keepF k8 (show Below w8.heap.size w8 w8.drew from (Below.refl _ _).drew)
  have hdown : b1 = true → b2 = true := by
    rw [Bb1.out, Bb2.out]
    simp [ans]
  clear Bb1 Bb2 k8
  go_wp2
  cases b1
  · clear hdown
    cases b2
    · skip
      refine wp_region_noPanic ?_
      refine wp_region_held_drew (S := fun w' => rowAt w' w.heap.size = ida xs ∧ rowAt w' (w.heap.size + 1) = ida ys ∧ rowAt w' C = pa xs s ∧ rowAt w' (C + 1) = pa ys t ∧ rowAt w' (C + 1 + 1) = pa ys s ∧ (w.heap.size < C ∧ w.heap.size + 1 < C ∧ C + 1 + 1 < w'.heap.size ∧ w.heap.size ≤ w'.heap.size) ∧ Below w.heap.size w w') (by kernel_rfl) k9 (fun hHeld => ?_)
      clear k9
      refine takeD (i := 0) (d := some 51) (v := .bool false) rfl (by rfl) (by kernel_rfl) (by kernel_rfl) (by kernel_rfl) (fun _ _ _ h => h) (Or.inl ⟨by rfl, fun w' hSw => by (try dsimp only at hSw); go_simp⟩) (by assumption) ?_
      simp only [Act.put, List.setIfInBounds_toArray, List.set_cons_zero, List.set_cons_succ]
      refine takeD (i := 1) (d := some 52) (v := .bool false) rfl (by rfl) (by kernel_rfl) (by kernel_rfl) (by kernel_rfl) (fun _ _ _ h => h) (Or.inl ⟨by rfl, fun w' hSw => by (try dsimp only at hSw); go_simp⟩) (by assumption) ?_
      simp only [Act.put, List.setIfInBounds_toArray, List.set_cons_zero, List.set_cons_succ]
      refine takeD (i := 2) (d := some 53) (v := .bool true) rfl (by rfl) (by kernel_rfl) (by kernel_rfl) (by kernel_rfl) (fun _ _ _ h => h) (Or.inl ⟨by rfl, fun w' hSw => by (try dsimp only at hSw); go_simp⟩) (by assumption) ?_
      simp only [Act.put, List.setIfInBounds_toArray, List.set_cons_zero, List.set_cons_succ]
      refine takeD (i := 3) (d := some 54) (v := .bool true) rfl (by rfl) (by kernel_rfl) (by kernel_rfl) (by kernel_rfl) (fun _ _ _ h => h) (Or.inl ⟨by rfl, fun w' hSw => by (try dsimp only at hSw); go_simp⟩) (by assumption) ?_
      simp only [Act.put, List.setIfInBounds_toArray, List.set_cons_zero, List.set_cons_succ]
      refine takeD (i := 4) (d := some 55) (v := .bool false) rfl (by rfl) (by kernel_rfl) (by kernel_rfl) (by kernel_rfl) (fun _ _ _ h => h) (Or.inl ⟨by rfl, fun w' hSw => by (try dsimp only at hSw); go_simp⟩) (by assumption) ?_
      simp only [Act.put, List.setIfInBounds_toArray, List.set_cons_zero, List.set_cons_succ]
      refine takeD (i := 5) (d := some 56) (v := .bool true) rfl (by rfl) (by kernel_rfl) (by kernel_rfl) (by kernel_rfl) (fun _ _ _ h => h) (Or.inl ⟨by rfl, fun w' hSw => by (try dsimp only at hSw); go_simp⟩) (by assumption) ?_
      simp only [Act.put, List.setIfInBounds_toArray, List.set_cons_zero, List.set_cons_succ]
      refine takeD (i := 6) (d := some 57) (v := .bool true) rfl (by rfl) (by kernel_rfl) (by kernel_rfl) (by kernel_rfl) (fun _ _ _ h => h) (Or.inl ⟨by rfl, fun w' hSw => by (try dsimp only at hSw); go_simp⟩) (by assumption) ?_
      simp only [Act.put, List.setIfInBounds_toArray, List.set_cons_zero, List.set_cons_succ]
      refine takeD (i := 7) (d := some 58) (v := undef) rfl (by rfl) (by kernel_rfl) (by kernel_rfl) (by kernel_rfl) (fun _ _ _ h => h) (Or.inr ⟨by rfl, rfl⟩) (by assumption) ?_
      simp only [Act.put, List.setIfInBounds_toArray, List.set_cons_zero, List.set_cons_succ]
      refine takeD (i := 8) (d := some 59) (v := .bool true) rfl (by rfl) (by kernel_rfl) (by kernel_rfl) (by kernel_rfl) (fun _ _ _ h => h) (Or.inl ⟨by rfl, fun w' hSw => by (try dsimp only at hSw); go_simp⟩) (by assumption) ?_
      simp only [Act.put, List.setIfInBounds_toArray, List.set_cons_zero, List.set_cons_succ]
      refine takeD (i := 9) (d := some 60) (v := .bool true) rfl (by rfl) (by kernel_rfl) (by kernel_rfl) (by kernel_rfl) (fun _ _ _ h => h) (Or.inl ⟨by rfl, fun w' hSw => by (try dsimp only at hSw); go_simp⟩) (by assumption) ?_
      simp only [Act.put, List.setIfInBounds_toArray, List.set_cons_zero, List.set_cons_succ]
      refine takeD (i := 10) (d := some 61) (v := .bool true) rfl (by rfl) (by kernel_rfl) (by kernel_rfl) (by kernel_rfl) (fun _ _ _ h => h) (Or.inl ⟨by rfl, fun w' hSw => by (try dsimp only at hSw); go_simp⟩) (by assumption) ?_
      simp only [Act.put, List.setIfInBounds_toArray, List.set_cons_zero, List.set_cons_succ]
      refine takeD (i := 11) (d := some 62) (v := .bool false) rfl (by rfl) (by kernel_rfl) (by kernel_rfl) (by kernel_rfl) (fun _ _ _ h => h) (Or.inl ⟨by rfl, fun w' hSw => by (try dsimp only at hSw); go_simp⟩) (by assumption) ?_
      simp only [Act.put, List.setIfInBounds_toArray, List.set_cons_zero, List.set_cons_succ]
      refine takeD (i := 12) (d := some 63) (v := .bool true) rfl (by rfl) (by kernel_rfl) (by kernel_rfl) (by kernel_rfl) (fun _ _ _ h => h) (Or.inl ⟨by rfl, fun w' hSw => by (try dsimp only at hSw); go_simp⟩) (by assumption) ?_
      simp only [Act.put, List.setIfInBounds_toArray, List.set_cons_zero, List.set_cons_succ]
      refine takeD (i := 13) (d := some 64) (v := .bool true) rfl (by rfl) (by kernel_rfl) (by kernel_rfl) (by kernel_rfl) (fun _ _ _ h => h) (Or.inl ⟨by rfl, fun w' hSw => by (try dsimp only at hSw); go_simp⟩) (by assumption) ?_
      simp only [Act.put, List.setIfInBounds_toArray, List.set_cons_zero, List.set_cons_succ]
      refine takeD (i := 14) (d := some 65) (v := undef) rfl (by rfl) (by kernel_rfl) (by kernel_rfl) (by kernel_rfl) (fun _ _ _ h => h) (Or.inr ⟨by rfl, rfl⟩) (by assumption) ?_
      simp only [Act.put, List.setIfInBounds_toArray, List.set_cons_zero, List.set_cons_succ]
      refine takeD (i := 15) (d := some 66) (v := .bool true) rfl (by rfl) (by kernel_rfl) (by kernel_rfl) (by kernel_rfl) (fun _ _ _ h => h) (Or.inl ⟨by rfl, fun w' hSw => by (try dsimp only at hSw); go_simp⟩) (by assumption) ?_
      simp only [Act.put, List.setIfInBounds_toArray, List.set_cons_zero, List.set_cons_succ]
      refine takeD (i := 16) (d := some 67) (v := .bool true) rfl (by rfl) (by kernel_rfl) (by kernel_rfl) (by kernel_rfl) (fun _ _ _ h => h) (Or.inl ⟨by rfl, fun w' hSw => by (try dsimp only at hSw); go_simp⟩) (by assumption) ?_
      simp only [Act.put, List.setIfInBounds_toArray, List.set_cons_zero, List.set_cons_succ]
      refine takeD (i := 17) (d := some 68) (v := .bool true) rfl (by rfl) (by kernel_rfl) (by kernel_rfl) (by kernel_rfl) (fun _ _ _ h => h) (Or.inl ⟨by rfl, fun w' hSw => by (try dsimp only at hSw); go_simp⟩) (by assumption) ?_
      simp only [Act.put, List.setIfInBounds_toArray, List.set_cons_zero, List.set_cons_succ]
      refine takeD (i := 18) (d := some 69) (v := .bool true) rfl (by rfl) (by kernel_rfl) (by kernel_rfl) (by kernel_rfl) (fun _ _ _ h => h) (Or.inl ⟨by rfl, fun w' hSw => by (try dsimp only at hSw); go_simp⟩) (by assumption) ?_
      simp only [Act.put, List.setIfInBounds_toArray, List.set_cons_zero, List.set_cons_succ]
      refine takeD (i := 19) (d := some 70) (v := .bool true) rfl (by rfl) (by kernel_rfl) (by kernel_rfl) (by kernel_rfl) (fun _ _ _ h => h) (Or.inl ⟨by rfl, fun w' hSw => by (try dsimp only at hSw); go_simp⟩) (by assumption) ?_
      simp only [Act.put, List.setIfInBounds_toArray, List.set_cons_zero, List.set_cons_succ]
      refine takeD (i := 20) (d := some 71) (v := .bool true) rfl (by rfl) (by kernel_rfl) (by kernel_rfl) (by kernel_rfl) (fun _ _ _ h => h) (Or.inl ⟨by rfl, fun w' hSw => by (try dsimp only at hSw); go_simp⟩) (by assumption) ?_
      simp only [Act.put, List.setIfInBounds_toArray, List.set_cons_zero, List.set_cons_succ]
      refine takeD (i := 21) (d := some 72) (v := .agg (pa xs s)) rfl (by rfl) (by kernel_rfl) (by kernel_rfl) (by kernel_rfl) (fun _ _ _ h => h) (yields_row (by rfl) 26 (.tmp 9) (by rfl) (C) (by rfl) (pa xs s) _ (fun _ h => h.2.2.1) Try.underlying26 rfl HI1.out) hHeld ?_
      simp only [Act.put, List.setIfInBounds_toArray, List.set_cons_zero, List.set_cons_succ]
      refine takeD (i := 22) (d := some 73) (v := .agg (pa ys s)) rfl (by rfl) (by kernel_rfl) (by kernel_rfl) (by kernel_rfl) (fun _ _ _ h => h) (yields_row (by rfl) 26 (.tmp 11) (by rfl) (C + 1 + 1) (by rfl) (pa ys s) _ (fun _ h => h.2.2.2.2.1) Try.underlying26 rfl HI3.out) hHeld ?_
      simp only [Act.put, List.setIfInBounds_toArray, List.set_cons_zero, List.set_cons_succ]
      refine wpAnyH_ready (rs := [23]) (by kernel_rfl) (by simp) ?_
      refine AllReadyH.cons rfl (fun K hK => ?_) AllReadyH.nil
      go_simp
      go_wp2_with fail
      refine (zzAnswered _ false xs ys s s hx hy _).mono ?_
      rintro e w9 ⟨he, hb9⟩
      rw [ans_twin] at he
      subst he
      have k9 := keepF hHeld hb9
      clear hHeld hb9
      go_wp2
      refine hK.out _ _ k9 (fun hHeld => ?_)
      clear hK k9
      refine takeD (i := 24) (d := some 75) (v := .bool true) rfl (by rfl) (by kernel_rfl) (by kernel_rfl) (by kernel_rfl) (fun _ _ _ h => h) (Or.inl ⟨by rfl, fun w' hSw => by (try dsimp only at hSw); go_simp⟩) (by assumption) ?_
      simp only [Act.put, List.setIfInBounds_toArray, List.set_cons_zero, List.set_cons_succ]
      refine takeD (i := 25) (d := some 76) (v := .bool true) rfl (by rfl) (by kernel_rfl) (by kernel_rfl) (by kernel_rfl) (fun _ _ _ h => h) (Or.inl ⟨by rfl, fun w' hSw => by (try dsimp only at hSw); go_simp⟩) (by assumption) ?_
      simp only [Act.put, List.setIfInBounds_toArray, List.set_cons_zero, List.set_cons_succ]
      refine takeD (i := 26) (d := some 77) (v := .agg (pa xs s)) rfl (by rfl) (by kernel_rfl) (by kernel_rfl) (by kernel_rfl) (fun _ _ _ h => h) (yields_row (by rfl) 26 (.tmp 9) (by rfl) (C) (by rfl) (pa xs s) _ (fun _ h => h.2.2.1) Try.underlying26 rfl HI1.out) hHeld ?_
      simp only [Act.put, List.setIfInBounds_toArray, List.set_cons_zero, List.set_cons_succ]
      refine takeD (i := 27) (d := some 78) (v := .agg (pa ys s)) rfl (by rfl) (by kernel_rfl) (by kernel_rfl) (by kernel_rfl) (fun _ _ _ h => h) (yields_row (by rfl) 26 (.tmp 11) (by rfl) (C + 1 + 1) (by rfl) (pa ys s) _ (fun _ h => h.2.2.2.2.1) Try.underlying26 rfl HI3.out) hHeld ?_
      simp only [Act.put, List.setIfInBounds_toArray, List.set_cons_zero, List.set_cons_succ]
      refine takeD (i := 29) (d := some 80) (v := .agg (ida ys)) rfl (by rfl) (by kernel_rfl) (by kernel_rfl) (by kernel_rfl) (fun _ _ _ h => h) (yields_row (by rfl) 22 (.tmp 6) (by rfl) (w.heap.size + 1) (by rfl) (ida ys) _ (fun _ h => h.2.1) Try.underlying22 rfl HY.out) hHeld ?_
      simp only [Act.put, List.setIfInBounds_toArray, List.set_cons_zero, List.set_cons_succ]
      refine takeD (i := 30) (d := some 81) (v := .agg (ida xs)) rfl (by rfl) (by kernel_rfl) (by kernel_rfl) (by kernel_rfl) (fun _ _ _ h => h) (yields_row (by rfl) 22 (.tmp 4) (by rfl) (w.heap.size) (by rfl) (ida xs) _ (fun _ h => h.1) Try.underlying22 rfl HX.out) hHeld ?_
      simp only [Act.put, List.setIfInBounds_toArray, List.set_cons_zero, List.set_cons_succ]
      refine takeD (i := 31) (d := some 82) (v := .bool (ys == xs)) rfl (by rfl) (by kernel_rfl) (by kernel_rfl) (by kernel_rfl) (fun _ _ _ h => h) (Or.inl ⟨by rfl, fun w' hSw => by (try dsimp only at hSw); go_simp⟩) (by assumption) ?_
      simp only [Act.put, List.setIfInBounds_toArray, List.set_cons_zero, List.set_cons_succ]
      refine wpAnyH_ready (rs := [28]) (by kernel_rfl) (by simp) ?_
      refine AllReadyH.cons rfl (fun K hK => ?_) AllReadyH.nil
      go_simp
      go_wp2_with fail
      refine (zzAnswered _ false xs ys s s hx hy _).mono ?_
      rintro e w10 ⟨he, hb10⟩
      rw [ans_named] at he
      subst he
      have k10 := keepF hHeld hb10
      clear hHeld hb10
      go_wp2
      refine hK.out _ _ k10 (fun hHeld => ?_)
      clear hK k10
      refine takeD (i := 32) (d := some 83) (v := .bool true) rfl (by rfl) (by kernel_rfl) (by kernel_rfl) (by kernel_rfl) (fun _ _ _ h => h) (Or.inl ⟨by rfl, fun w' hSw => by (try dsimp only at hSw); go_simp⟩) (by assumption) ?_
      simp only [Act.put, List.setIfInBounds_toArray, List.set_cons_zero, List.set_cons_succ]
      refine takeD (i := 33) (d := some 84) (v := .bool true) rfl (by rfl) (by kernel_rfl) (by kernel_rfl) (by kernel_rfl) (fun _ _ _ h => h) (Or.inl ⟨by rfl, fun w' hSw => by (try dsimp only at hSw); go_simp⟩) (by assumption) ?_
      simp only [Act.put, List.setIfInBounds_toArray, List.set_cons_zero, List.set_cons_succ]
      refine takeD (i := 34) (d := some 8) (v := .bool true) rfl (by rfl) (by kernel_rfl) (by kernel_rfl) (by kernel_rfl) (fun _ _ _ h => h) (Or.inl ⟨by rfl, fun w' hSw => by (try dsimp only at hSw); go_simp⟩) (by assumption) ?_
      simp only [Act.put, List.setIfInBounds_toArray, List.set_cons_zero, List.set_cons_succ]
      refine wpAnyH_done (by kernel_rfl) ?_ _
      refine NoPanic.normal ?_
      go_wp2
      go_ret
      exact ⟨rfl, hHeld.2.2.2.2.2.2⟩
    · skip
      refine wp_region_noPanic ?_
      refine wp_region_held_drew (S := fun w' => rowAt w' w.heap.size = ida xs ∧ rowAt w' (w.heap.size + 1) = ida ys ∧ rowAt w' C = pa xs s ∧ rowAt w' (C + 1) = pa ys t ∧ rowAt w' (C + 1 + 1) = pa ys s ∧ (w.heap.size < C ∧ w.heap.size + 1 < C ∧ C + 1 + 1 < w'.heap.size ∧ w.heap.size ≤ w'.heap.size) ∧ Below w.heap.size w w') (by kernel_rfl) k9 (fun hHeld => ?_)
      clear k9
      refine takeD (i := 0) (d := some 51) (v := .bool false) rfl (by rfl) (by kernel_rfl) (by kernel_rfl) (by kernel_rfl) (fun _ _ _ h => h) (Or.inl ⟨by rfl, fun w' hSw => by (try dsimp only at hSw); go_simp⟩) (by assumption) ?_
      simp only [Act.put, List.setIfInBounds_toArray, List.set_cons_zero, List.set_cons_succ]
      refine takeD (i := 1) (d := some 52) (v := .bool false) rfl (by rfl) (by kernel_rfl) (by kernel_rfl) (by kernel_rfl) (fun _ _ _ h => h) (Or.inl ⟨by rfl, fun w' hSw => by (try dsimp only at hSw); go_simp⟩) (by assumption) ?_
      simp only [Act.put, List.setIfInBounds_toArray, List.set_cons_zero, List.set_cons_succ]
      refine takeD (i := 2) (d := some 53) (v := .bool true) rfl (by rfl) (by kernel_rfl) (by kernel_rfl) (by kernel_rfl) (fun _ _ _ h => h) (Or.inl ⟨by rfl, fun w' hSw => by (try dsimp only at hSw); go_simp⟩) (by assumption) ?_
      simp only [Act.put, List.setIfInBounds_toArray, List.set_cons_zero, List.set_cons_succ]
      refine takeD (i := 3) (d := some 54) (v := .bool true) rfl (by rfl) (by kernel_rfl) (by kernel_rfl) (by kernel_rfl) (fun _ _ _ h => h) (Or.inl ⟨by rfl, fun w' hSw => by (try dsimp only at hSw); go_simp⟩) (by assumption) ?_
      simp only [Act.put, List.setIfInBounds_toArray, List.set_cons_zero, List.set_cons_succ]
      refine takeD (i := 4) (d := some 55) (v := .bool false) rfl (by rfl) (by kernel_rfl) (by kernel_rfl) (by kernel_rfl) (fun _ _ _ h => h) (Or.inl ⟨by rfl, fun w' hSw => by (try dsimp only at hSw); go_simp⟩) (by assumption) ?_
      simp only [Act.put, List.setIfInBounds_toArray, List.set_cons_zero, List.set_cons_succ]
      refine takeD (i := 5) (d := some 56) (v := .bool true) rfl (by rfl) (by kernel_rfl) (by kernel_rfl) (by kernel_rfl) (fun _ _ _ h => h) (Or.inl ⟨by rfl, fun w' hSw => by (try dsimp only at hSw); go_simp⟩) (by assumption) ?_
      simp only [Act.put, List.setIfInBounds_toArray, List.set_cons_zero, List.set_cons_succ]
      refine takeD (i := 6) (d := some 57) (v := .bool true) rfl (by rfl) (by kernel_rfl) (by kernel_rfl) (by kernel_rfl) (fun _ _ _ h => h) (Or.inl ⟨by rfl, fun w' hSw => by (try dsimp only at hSw); go_simp⟩) (by assumption) ?_
      simp only [Act.put, List.setIfInBounds_toArray, List.set_cons_zero, List.set_cons_succ]
      refine takeD (i := 7) (d := some 58) (v := undef) rfl (by rfl) (by kernel_rfl) (by kernel_rfl) (by kernel_rfl) (fun _ _ _ h => h) (Or.inr ⟨by rfl, rfl⟩) (by assumption) ?_
      simp only [Act.put, List.setIfInBounds_toArray, List.set_cons_zero, List.set_cons_succ]
      refine takeD (i := 8) (d := some 59) (v := .bool true) rfl (by rfl) (by kernel_rfl) (by kernel_rfl) (by kernel_rfl) (fun _ _ _ h => h) (Or.inl ⟨by rfl, fun w' hSw => by (try dsimp only at hSw); go_simp⟩) (by assumption) ?_
      simp only [Act.put, List.setIfInBounds_toArray, List.set_cons_zero, List.set_cons_succ]
      refine takeD (i := 9) (d := some 60) (v := .bool true) rfl (by rfl) (by kernel_rfl) (by kernel_rfl) (by kernel_rfl) (fun _ _ _ h => h) (Or.inl ⟨by rfl, fun w' hSw => by (try dsimp only at hSw); go_simp⟩) (by assumption) ?_
      simp only [Act.put, List.setIfInBounds_toArray, List.set_cons_zero, List.set_cons_succ]
      refine takeD (i := 10) (d := some 61) (v := .bool true) rfl (by rfl) (by kernel_rfl) (by kernel_rfl) (by kernel_rfl) (fun _ _ _ h => h) (Or.inl ⟨by rfl, fun w' hSw => by (try dsimp only at hSw); go_simp⟩) (by assumption) ?_
      simp only [Act.put, List.setIfInBounds_toArray, List.set_cons_zero, List.set_cons_succ]
      refine takeD (i := 11) (d := some 62) (v := .bool true) rfl (by rfl) (by kernel_rfl) (by kernel_rfl) (by kernel_rfl) (fun _ _ _ h => h) (Or.inl ⟨by rfl, fun w' hSw => by (try dsimp only at hSw); go_simp⟩) (by assumption) ?_
      simp only [Act.put, List.setIfInBounds_toArray, List.set_cons_zero, List.set_cons_succ]
      refine takeD (i := 12) (d := some 63) (v := .bool false) rfl (by rfl) (by kernel_rfl) (by kernel_rfl) (by kernel_rfl) (fun _ _ _ h => h) (Or.inl ⟨by rfl, fun w' hSw => by (try dsimp only at hSw); go_simp⟩) (by assumption) ?_
      simp only [Act.put, List.setIfInBounds_toArray, List.set_cons_zero, List.set_cons_succ]
      refine takeD (i := 13) (d := some 64) (v := .bool false) rfl (by rfl) (by kernel_rfl) (by kernel_rfl) (by kernel_rfl) (fun _ _ _ h => h) (Or.inl ⟨by rfl, fun w' hSw => by (try dsimp only at hSw); go_simp⟩) (by assumption) ?_
      simp only [Act.put, List.setIfInBounds_toArray, List.set_cons_zero, List.set_cons_succ]
      refine takeD (i := 14) (d := some 65) (v := .bool true) rfl (by rfl) (by kernel_rfl) (by kernel_rfl) (by kernel_rfl) (fun _ _ _ h => h) (Or.inl ⟨by rfl, fun w' hSw => by (try dsimp only at hSw); go_simp⟩) (by assumption) ?_
      simp only [Act.put, List.setIfInBounds_toArray, List.set_cons_zero, List.set_cons_succ]
      refine takeD (i := 15) (d := some 66) (v := .bool true) rfl (by rfl) (by kernel_rfl) (by kernel_rfl) (by kernel_rfl) (fun _ _ _ h => h) (Or.inl ⟨by rfl, fun w' hSw => by (try dsimp only at hSw); go_simp⟩) (by assumption) ?_
      simp only [Act.put, List.setIfInBounds_toArray, List.set_cons_zero, List.set_cons_succ]
      refine takeD (i := 16) (d := some 67) (v := .bool true) rfl (by rfl) (by kernel_rfl) (by kernel_rfl) (by kernel_rfl) (fun _ _ _ h => h) (Or.inl ⟨by rfl, fun w' hSw => by (try dsimp only at hSw); go_simp⟩) (by assumption) ?_
      simp only [Act.put, List.setIfInBounds_toArray, List.set_cons_zero, List.set_cons_succ]
      refine takeD (i := 17) (d := some 68) (v := .bool true) rfl (by rfl) (by kernel_rfl) (by kernel_rfl) (by kernel_rfl) (fun _ _ _ h => h) (Or.inl ⟨by rfl, fun w' hSw => by (try dsimp only at hSw); go_simp⟩) (by assumption) ?_
      simp only [Act.put, List.setIfInBounds_toArray, List.set_cons_zero, List.set_cons_succ]
      refine takeD (i := 18) (d := some 69) (v := .bool true) rfl (by rfl) (by kernel_rfl) (by kernel_rfl) (by kernel_rfl) (fun _ _ _ h => h) (Or.inl ⟨by rfl, fun w' hSw => by (try dsimp only at hSw); go_simp⟩) (by assumption) ?_
      simp only [Act.put, List.setIfInBounds_toArray, List.set_cons_zero, List.set_cons_succ]
      refine takeD (i := 19) (d := some 70) (v := .bool true) rfl (by rfl) (by kernel_rfl) (by kernel_rfl) (by kernel_rfl) (fun _ _ _ h => h) (Or.inl ⟨by rfl, fun w' hSw => by (try dsimp only at hSw); go_simp⟩) (by assumption) ?_
      simp only [Act.put, List.setIfInBounds_toArray, List.set_cons_zero, List.set_cons_succ]
      refine takeD (i := 20) (d := some 71) (v := .bool true) rfl (by rfl) (by kernel_rfl) (by kernel_rfl) (by kernel_rfl) (fun _ _ _ h => h) (Or.inl ⟨by rfl, fun w' hSw => by (try dsimp only at hSw); go_simp⟩) (by assumption) ?_
      simp only [Act.put, List.setIfInBounds_toArray, List.set_cons_zero, List.set_cons_succ]
      refine takeD (i := 21) (d := some 72) (v := .agg (pa xs s)) rfl (by rfl) (by kernel_rfl) (by kernel_rfl) (by kernel_rfl) (fun _ _ _ h => h) (yields_row (by rfl) 26 (.tmp 9) (by rfl) (C) (by rfl) (pa xs s) _ (fun _ h => h.2.2.1) Try.underlying26 rfl HI1.out) hHeld ?_
      simp only [Act.put, List.setIfInBounds_toArray, List.set_cons_zero, List.set_cons_succ]
      refine takeD (i := 22) (d := some 73) (v := .agg (pa ys s)) rfl (by rfl) (by kernel_rfl) (by kernel_rfl) (by kernel_rfl) (fun _ _ _ h => h) (yields_row (by rfl) 26 (.tmp 11) (by rfl) (C + 1 + 1) (by rfl) (pa ys s) _ (fun _ h => h.2.2.2.2.1) Try.underlying26 rfl HI3.out) hHeld ?_
      simp only [Act.put, List.setIfInBounds_toArray, List.set_cons_zero, List.set_cons_succ]
      refine wpAnyH_ready (rs := [23]) (by kernel_rfl) (by simp) ?_
      refine AllReadyH.cons rfl (fun K hK => ?_) AllReadyH.nil
      go_simp
      go_wp2_with fail
      refine (zzAnswered _ false xs ys s s hx hy _).mono ?_
      rintro e w9 ⟨he, hb9⟩
      rw [ans_twin] at he
      subst he
      have k9 := keepF hHeld hb9
      clear hHeld hb9
      go_wp2
      refine hK.out _ _ k9 (fun hHeld => ?_)
      clear hK k9
      refine takeD (i := 24) (d := some 75) (v := .bool true) rfl (by rfl) (by kernel_rfl) (by kernel_rfl) (by kernel_rfl) (fun _ _ _ h => h) (Or.inl ⟨by rfl, fun w' hSw => by (try dsimp only at hSw); go_simp⟩) (by assumption) ?_
      simp only [Act.put, List.setIfInBounds_toArray, List.set_cons_zero, List.set_cons_succ]
      refine takeD (i := 25) (d := some 76) (v := .bool true) rfl (by rfl) (by kernel_rfl) (by kernel_rfl) (by kernel_rfl) (fun _ _ _ h => h) (Or.inl ⟨by rfl, fun w' hSw => by (try dsimp only at hSw); go_simp⟩) (by assumption) ?_
      simp only [Act.put, List.setIfInBounds_toArray, List.set_cons_zero, List.set_cons_succ]
      refine takeD (i := 26) (d := some 77) (v := .agg (pa xs s)) rfl (by rfl) (by kernel_rfl) (by kernel_rfl) (by kernel_rfl) (fun _ _ _ h => h) (yields_row (by rfl) 26 (.tmp 9) (by rfl) (C) (by rfl) (pa xs s) _ (fun _ h => h.2.2.1) Try.underlying26 rfl HI1.out) hHeld ?_
      simp only [Act.put, List.setIfInBounds_toArray, List.set_cons_zero, List.set_cons_succ]
      refine takeD (i := 27) (d := some 78) (v := .agg (pa ys s)) rfl (by rfl) (by kernel_rfl) (by kernel_rfl) (by kernel_rfl) (fun _ _ _ h => h) (yields_row (by rfl) 26 (.tmp 11) (by rfl) (C + 1 + 1) (by rfl) (pa ys s) _ (fun _ h => h.2.2.2.2.1) Try.underlying26 rfl HI3.out) hHeld ?_
      simp only [Act.put, List.setIfInBounds_toArray, List.set_cons_zero, List.set_cons_succ]
      refine takeD (i := 29) (d := some 80) (v := .agg (ida ys)) rfl (by rfl) (by kernel_rfl) (by kernel_rfl) (by kernel_rfl) (fun _ _ _ h => h) (yields_row (by rfl) 22 (.tmp 6) (by rfl) (w.heap.size + 1) (by rfl) (ida ys) _ (fun _ h => h.2.1) Try.underlying22 rfl HY.out) hHeld ?_
      simp only [Act.put, List.setIfInBounds_toArray, List.set_cons_zero, List.set_cons_succ]
      refine takeD (i := 30) (d := some 81) (v := .agg (ida xs)) rfl (by rfl) (by kernel_rfl) (by kernel_rfl) (by kernel_rfl) (fun _ _ _ h => h) (yields_row (by rfl) 22 (.tmp 4) (by rfl) (w.heap.size) (by rfl) (ida xs) _ (fun _ h => h.1) Try.underlying22 rfl HX.out) hHeld ?_
      simp only [Act.put, List.setIfInBounds_toArray, List.set_cons_zero, List.set_cons_succ]
      refine takeD (i := 31) (d := some 82) (v := .bool (ys == xs)) rfl (by rfl) (by kernel_rfl) (by kernel_rfl) (by kernel_rfl) (fun _ _ _ h => h) (Or.inl ⟨by rfl, fun w' hSw => by (try dsimp only at hSw); go_simp⟩) (by assumption) ?_
      simp only [Act.put, List.setIfInBounds_toArray, List.set_cons_zero, List.set_cons_succ]
      refine wpAnyH_ready (rs := [28]) (by kernel_rfl) (by simp) ?_
      refine AllReadyH.cons rfl (fun K hK => ?_) AllReadyH.nil
      go_simp
      go_wp2_with fail
      refine (zzAnswered _ false xs ys s s hx hy _).mono ?_
      rintro e w10 ⟨he, hb10⟩
      rw [ans_named] at he
      subst he
      have k10 := keepF hHeld hb10
      clear hHeld hb10
      go_wp2
      refine hK.out _ _ k10 (fun hHeld => ?_)
      clear hK k10
      refine takeD (i := 32) (d := some 83) (v := .bool true) rfl (by rfl) (by kernel_rfl) (by kernel_rfl) (by kernel_rfl) (fun _ _ _ h => h) (Or.inl ⟨by rfl, fun w' hSw => by (try dsimp only at hSw); go_simp⟩) (by assumption) ?_
      simp only [Act.put, List.setIfInBounds_toArray, List.set_cons_zero, List.set_cons_succ]
      refine takeD (i := 33) (d := some 84) (v := .bool true) rfl (by rfl) (by kernel_rfl) (by kernel_rfl) (by kernel_rfl) (fun _ _ _ h => h) (Or.inl ⟨by rfl, fun w' hSw => by (try dsimp only at hSw); go_simp⟩) (by assumption) ?_
      simp only [Act.put, List.setIfInBounds_toArray, List.set_cons_zero, List.set_cons_succ]
      refine takeD (i := 34) (d := some 8) (v := .bool true) rfl (by rfl) (by kernel_rfl) (by kernel_rfl) (by kernel_rfl) (fun _ _ _ h => h) (Or.inl ⟨by rfl, fun w' hSw => by (try dsimp only at hSw); go_simp⟩) (by assumption) ?_
      simp only [Act.put, List.setIfInBounds_toArray, List.set_cons_zero, List.set_cons_succ]
      refine wpAnyH_done (by kernel_rfl) ?_ _
      refine NoPanic.normal ?_
      go_wp2
      go_ret
      exact ⟨rfl, hHeld.2.2.2.2.2.2⟩
  · obtain rfl : b2 = true := hdown rfl
    clear hdown
    refine wp_region_noPanic ?_
    refine wp_region_held_drew (S := fun w' => rowAt w' w.heap.size = ida xs ∧ rowAt w' (w.heap.size + 1) = ida ys ∧ rowAt w' C = pa xs s ∧ rowAt w' (C + 1) = pa ys t ∧ rowAt w' (C + 1 + 1) = pa ys s ∧ (w.heap.size < C ∧ w.heap.size + 1 < C ∧ C + 1 + 1 < w'.heap.size ∧ w.heap.size ≤ w'.heap.size) ∧ Below w.heap.size w w') (by kernel_rfl) k9 (fun hHeld => ?_)
    clear k9
    refine takeD (i := 0) (d := some 51) (v := .bool true) rfl (by rfl) (by kernel_rfl) (by kernel_rfl) (by kernel_rfl) (fun _ _ _ h => h) (Or.inl ⟨by rfl, fun w' hSw => by (try dsimp only at hSw); go_simp⟩) (by assumption) ?_
    simp only [Act.put, List.setIfInBounds_toArray, List.set_cons_zero, List.set_cons_succ]
    refine takeD (i := 1) (d := some 52) (v := .bool true) rfl (by rfl) (by kernel_rfl) (by kernel_rfl) (by kernel_rfl) (fun _ _ _ h => h) (Or.inl ⟨by rfl, fun w' hSw => by (try dsimp only at hSw); go_simp⟩) (by assumption) ?_
    simp only [Act.put, List.setIfInBounds_toArray, List.set_cons_zero, List.set_cons_succ]
    refine takeD (i := 2) (d := some 53) (v := .bool true) rfl (by rfl) (by kernel_rfl) (by kernel_rfl) (by kernel_rfl) (fun _ _ _ h => h) (Or.inl ⟨by rfl, fun w' hSw => by (try dsimp only at hSw); go_simp⟩) (by assumption) ?_
    simp only [Act.put, List.setIfInBounds_toArray, List.set_cons_zero, List.set_cons_succ]
    refine takeD (i := 3) (d := some 54) (v := .bool true) rfl (by rfl) (by kernel_rfl) (by kernel_rfl) (by kernel_rfl) (fun _ _ _ h => h) (Or.inl ⟨by rfl, fun w' hSw => by (try dsimp only at hSw); go_simp⟩) (by assumption) ?_
    simp only [Act.put, List.setIfInBounds_toArray, List.set_cons_zero, List.set_cons_succ]
    refine takeD (i := 4) (d := some 55) (v := .bool true) rfl (by rfl) (by kernel_rfl) (by kernel_rfl) (by kernel_rfl) (fun _ _ _ h => h) (Or.inl ⟨by rfl, fun w' hSw => by (try dsimp only at hSw); go_simp⟩) (by assumption) ?_
    simp only [Act.put, List.setIfInBounds_toArray, List.set_cons_zero, List.set_cons_succ]
    refine takeD (i := 5) (d := some 56) (v := .bool false) rfl (by rfl) (by kernel_rfl) (by kernel_rfl) (by kernel_rfl) (fun _ _ _ h => h) (Or.inl ⟨by rfl, fun w' hSw => by (try dsimp only at hSw); go_simp⟩) (by assumption) ?_
    simp only [Act.put, List.setIfInBounds_toArray, List.set_cons_zero, List.set_cons_succ]
    refine takeD (i := 6) (d := some 57) (v := .bool false) rfl (by rfl) (by kernel_rfl) (by kernel_rfl) (by kernel_rfl) (fun _ _ _ h => h) (Or.inl ⟨by rfl, fun w' hSw => by (try dsimp only at hSw); go_simp⟩) (by assumption) ?_
    simp only [Act.put, List.setIfInBounds_toArray, List.set_cons_zero, List.set_cons_succ]
    refine takeD (i := 7) (d := some 58) (v := .bool true) rfl (by rfl) (by kernel_rfl) (by kernel_rfl) (by kernel_rfl) (fun _ _ _ h => h) (Or.inl ⟨by rfl, fun w' hSw => by (try dsimp only at hSw); go_simp⟩) (by assumption) ?_
    simp only [Act.put, List.setIfInBounds_toArray, List.set_cons_zero, List.set_cons_succ]
    refine takeD (i := 8) (d := some 59) (v := .bool true) rfl (by rfl) (by kernel_rfl) (by kernel_rfl) (by kernel_rfl) (fun _ _ _ h => h) (Or.inl ⟨by rfl, fun w' hSw => by (try dsimp only at hSw); go_simp⟩) (by assumption) ?_
    simp only [Act.put, List.setIfInBounds_toArray, List.set_cons_zero, List.set_cons_succ]
    refine takeD (i := 9) (d := some 60) (v := .bool true) rfl (by rfl) (by kernel_rfl) (by kernel_rfl) (by kernel_rfl) (fun _ _ _ h => h) (Or.inl ⟨by rfl, fun w' hSw => by (try dsimp only at hSw); go_simp⟩) (by assumption) ?_
    simp only [Act.put, List.setIfInBounds_toArray, List.set_cons_zero, List.set_cons_succ]
    refine takeD (i := 10) (d := some 61) (v := .bool true) rfl (by rfl) (by kernel_rfl) (by kernel_rfl) (by kernel_rfl) (fun _ _ _ h => h) (Or.inl ⟨by rfl, fun w' hSw => by (try dsimp only at hSw); go_simp⟩) (by assumption) ?_
    simp only [Act.put, List.setIfInBounds_toArray, List.set_cons_zero, List.set_cons_succ]
    refine takeD (i := 11) (d := some 62) (v := .bool true) rfl (by rfl) (by kernel_rfl) (by kernel_rfl) (by kernel_rfl) (fun _ _ _ h => h) (Or.inl ⟨by rfl, fun w' hSw => by (try dsimp only at hSw); go_simp⟩) (by assumption) ?_
    simp only [Act.put, List.setIfInBounds_toArray, List.set_cons_zero, List.set_cons_succ]
    refine takeD (i := 12) (d := some 63) (v := .bool false) rfl (by rfl) (by kernel_rfl) (by kernel_rfl) (by kernel_rfl) (fun _ _ _ h => h) (Or.inl ⟨by rfl, fun w' hSw => by (try dsimp only at hSw); go_simp⟩) (by assumption) ?_
    simp only [Act.put, List.setIfInBounds_toArray, List.set_cons_zero, List.set_cons_succ]
    refine takeD (i := 13) (d := some 64) (v := .bool false) rfl (by rfl) (by kernel_rfl) (by kernel_rfl) (by kernel_rfl) (fun _ _ _ h => h) (Or.inl ⟨by rfl, fun w' hSw => by (try dsimp only at hSw); go_simp⟩) (by assumption) ?_
    simp only [Act.put, List.setIfInBounds_toArray, List.set_cons_zero, List.set_cons_succ]
    refine takeD (i := 14) (d := some 65) (v := .bool true) rfl (by rfl) (by kernel_rfl) (by kernel_rfl) (by kernel_rfl) (fun _ _ _ h => h) (Or.inl ⟨by rfl, fun w' hSw => by (try dsimp only at hSw); go_simp⟩) (by assumption) ?_
    simp only [Act.put, List.setIfInBounds_toArray, List.set_cons_zero, List.set_cons_succ]
    refine takeD (i := 15) (d := some 66) (v := .bool true) rfl (by rfl) (by kernel_rfl) (by kernel_rfl) (by kernel_rfl) (fun _ _ _ h => h) (Or.inl ⟨by rfl, fun w' hSw => by (try dsimp only at hSw); go_simp⟩) (by assumption) ?_
    simp only [Act.put, List.setIfInBounds_toArray, List.set_cons_zero, List.set_cons_succ]
    refine takeD (i := 16) (d := some 67) (v := .bool true) rfl (by rfl) (by kernel_rfl) (by kernel_rfl) (by kernel_rfl) (fun _ _ _ h => h) (Or.inl ⟨by rfl, fun w' hSw => by (try dsimp only at hSw); go_simp⟩) (by assumption) ?_
    simp only [Act.put, List.setIfInBounds_toArray, List.set_cons_zero, List.set_cons_succ]
    refine takeD (i := 17) (d := some 68) (v := .bool true) rfl (by rfl) (by kernel_rfl) (by kernel_rfl) (by kernel_rfl) (fun _ _ _ h => h) (Or.inl ⟨by rfl, fun w' hSw => by (try dsimp only at hSw); go_simp⟩) (by assumption) ?_
    simp only [Act.put, List.setIfInBounds_toArray, List.set_cons_zero, List.set_cons_succ]
    refine takeD (i := 18) (d := some 69) (v := .bool true) rfl (by rfl) (by kernel_rfl) (by kernel_rfl) (by kernel_rfl) (fun _ _ _ h => h) (Or.inl ⟨by rfl, fun w' hSw => by (try dsimp only at hSw); go_simp⟩) (by assumption) ?_
    simp only [Act.put, List.setIfInBounds_toArray, List.set_cons_zero, List.set_cons_succ]
    refine takeD (i := 19) (d := some 70) (v := .bool true) rfl (by rfl) (by kernel_rfl) (by kernel_rfl) (by kernel_rfl) (fun _ _ _ h => h) (Or.inl ⟨by rfl, fun w' hSw => by (try dsimp only at hSw); go_simp⟩) (by assumption) ?_
    simp only [Act.put, List.setIfInBounds_toArray, List.set_cons_zero, List.set_cons_succ]
    refine takeD (i := 20) (d := some 71) (v := .bool true) rfl (by rfl) (by kernel_rfl) (by kernel_rfl) (by kernel_rfl) (fun _ _ _ h => h) (Or.inl ⟨by rfl, fun w' hSw => by (try dsimp only at hSw); go_simp⟩) (by assumption) ?_
    simp only [Act.put, List.setIfInBounds_toArray, List.set_cons_zero, List.set_cons_succ]
    refine takeD (i := 21) (d := some 72) (v := .agg (pa xs s)) rfl (by rfl) (by kernel_rfl) (by kernel_rfl) (by kernel_rfl) (fun _ _ _ h => h) (yields_row (by rfl) 26 (.tmp 9) (by rfl) (C) (by rfl) (pa xs s) _ (fun _ h => h.2.2.1) Try.underlying26 rfl HI1.out) hHeld ?_
    simp only [Act.put, List.setIfInBounds_toArray, List.set_cons_zero, List.set_cons_succ]
    refine takeD (i := 22) (d := some 73) (v := .agg (pa ys s)) rfl (by rfl) (by kernel_rfl) (by kernel_rfl) (by kernel_rfl) (fun _ _ _ h => h) (yields_row (by rfl) 26 (.tmp 11) (by rfl) (C + 1 + 1) (by rfl) (pa ys s) _ (fun _ h => h.2.2.2.2.1) Try.underlying26 rfl HI3.out) hHeld ?_
    simp only [Act.put, List.setIfInBounds_toArray, List.set_cons_zero, List.set_cons_succ]
    refine wpAnyH_ready (rs := [23]) (by kernel_rfl) (by simp) ?_
    refine AllReadyH.cons rfl (fun K hK => ?_) AllReadyH.nil
    go_simp
    go_wp2_with fail
    refine (zzAnswered _ false xs ys s s hx hy _).mono ?_
    rintro e w9 ⟨he, hb9⟩
    rw [ans_twin] at he
    subst he
    have k9 := keepF hHeld hb9
    clear hHeld hb9
    go_wp2
    refine hK.out _ _ k9 (fun hHeld => ?_)
    clear hK k9
    refine takeD (i := 24) (d := some 75) (v := .bool true) rfl (by rfl) (by kernel_rfl) (by kernel_rfl) (by kernel_rfl) (fun _ _ _ h => h) (Or.inl ⟨by rfl, fun w' hSw => by (try dsimp only at hSw); go_simp⟩) (by assumption) ?_
    simp only [Act.put, List.setIfInBounds_toArray, List.set_cons_zero, List.set_cons_succ]
    refine takeD (i := 25) (d := some 76) (v := .bool true) rfl (by rfl) (by kernel_rfl) (by kernel_rfl) (by kernel_rfl) (fun _ _ _ h => h) (Or.inl ⟨by rfl, fun w' hSw => by (try dsimp only at hSw); go_simp⟩) (by assumption) ?_
    simp only [Act.put, List.setIfInBounds_toArray, List.set_cons_zero, List.set_cons_succ]
    refine takeD (i := 26) (d := some 77) (v := .agg (pa xs s)) rfl (by rfl) (by kernel_rfl) (by kernel_rfl) (by kernel_rfl) (fun _ _ _ h => h) (yields_row (by rfl) 26 (.tmp 9) (by rfl) (C) (by rfl) (pa xs s) _ (fun _ h => h.2.2.1) Try.underlying26 rfl HI1.out) hHeld ?_
    simp only [Act.put, List.setIfInBounds_toArray, List.set_cons_zero, List.set_cons_succ]
    refine takeD (i := 27) (d := some 78) (v := .agg (pa ys s)) rfl (by rfl) (by kernel_rfl) (by kernel_rfl) (by kernel_rfl) (fun _ _ _ h => h) (yields_row (by rfl) 26 (.tmp 11) (by rfl) (C + 1 + 1) (by rfl) (pa ys s) _ (fun _ h => h.2.2.2.2.1) Try.underlying26 rfl HI3.out) hHeld ?_
    simp only [Act.put, List.setIfInBounds_toArray, List.set_cons_zero, List.set_cons_succ]
    refine takeD (i := 29) (d := some 80) (v := .agg (ida ys)) rfl (by rfl) (by kernel_rfl) (by kernel_rfl) (by kernel_rfl) (fun _ _ _ h => h) (yields_row (by rfl) 22 (.tmp 6) (by rfl) (w.heap.size + 1) (by rfl) (ida ys) _ (fun _ h => h.2.1) Try.underlying22 rfl HY.out) hHeld ?_
    simp only [Act.put, List.setIfInBounds_toArray, List.set_cons_zero, List.set_cons_succ]
    refine takeD (i := 30) (d := some 81) (v := .agg (ida xs)) rfl (by rfl) (by kernel_rfl) (by kernel_rfl) (by kernel_rfl) (fun _ _ _ h => h) (yields_row (by rfl) 22 (.tmp 4) (by rfl) (w.heap.size) (by rfl) (ida xs) _ (fun _ h => h.1) Try.underlying22 rfl HX.out) hHeld ?_
    simp only [Act.put, List.setIfInBounds_toArray, List.set_cons_zero, List.set_cons_succ]
    refine takeD (i := 31) (d := some 82) (v := .bool (ys == xs)) rfl (by rfl) (by kernel_rfl) (by kernel_rfl) (by kernel_rfl) (fun _ _ _ h => h) (Or.inl ⟨by rfl, fun w' hSw => by (try dsimp only at hSw); go_simp⟩) (by assumption) ?_
    simp only [Act.put, List.setIfInBounds_toArray, List.set_cons_zero, List.set_cons_succ]
    refine wpAnyH_ready (rs := [28]) (by kernel_rfl) (by simp) ?_
    refine AllReadyH.cons rfl (fun K hK => ?_) AllReadyH.nil
    go_simp
    go_wp2_with fail
    refine (zzAnswered _ false xs ys s s hx hy _).mono ?_
    rintro e w10 ⟨he, hb10⟩
    rw [ans_named] at he
    subst he
    have k10 := keepF hHeld hb10
    clear hHeld hb10
    go_wp2
    refine hK.out _ _ k10 (fun hHeld => ?_)
    clear hK k10
    refine takeD (i := 32) (d := some 83) (v := .bool true) rfl (by rfl) (by kernel_rfl) (by kernel_rfl) (by kernel_rfl) (fun _ _ _ h => h) (Or.inl ⟨by rfl, fun w' hSw => by (try dsimp only at hSw); go_simp⟩) (by assumption) ?_
    simp only [Act.put, List.setIfInBounds_toArray, List.set_cons_zero, List.set_cons_succ]
    refine takeD (i := 33) (d := some 84) (v := .bool true) rfl (by rfl) (by kernel_rfl) (by kernel_rfl) (by kernel_rfl) (fun _ _ _ h => h) (Or.inl ⟨by rfl, fun w' hSw => by (try dsimp only at hSw); go_simp⟩) (by assumption) ?_
    simp only [Act.put, List.setIfInBounds_toArray, List.set_cons_zero, List.set_cons_succ]
    refine takeD (i := 34) (d := some 8) (v := .bool true) rfl (by rfl) (by kernel_rfl) (by kernel_rfl) (by kernel_rfl) (fun _ _ _ h => h) (Or.inl ⟨by rfl, fun w' hSw => by (try dsimp only at hSw); go_simp⟩) (by assumption) ?_
    simp only [Act.put, List.setIfInBounds_toArray, List.set_cons_zero, List.set_cons_succ]
    refine wpAnyH_done (by kernel_rfl) ?_ _
    refine NoPanic.normal ?_
    go_wp2
    go_ret
    exact ⟨rfl, hHeld.2.2.2.2.2.2⟩

end Go.Proofs.Qxb6608839a
