/-
  THE WALKS OF ZZcheckBatchMax, ..MaxText, ..None, ..Other.
-/
import Derived.Test.Qxb6608755aFmtBatchW
import Derived.Deep.RegionWith
namespace Go.Proofs.Qxb6608755aFmt
open Go Go.RowKit Go.Extern.Stop Go.Stop Go.Extern

theorem alloc_set (w : World) (o o' : Obj) : ({ (w.alloc o) with heap := (w.alloc o).heap.setIfInBounds w.heap.size o' } : World) = w.alloc o' := by
  have h : (w.heap.push o).setIfInBounds w.heap.size o' = w.heap.push o' := by
    apply Array.ext'
    simp
  show ({ (w.alloc o) with heap := (w.heap.push o).setIfInBounds w.heap.size o' } : World) = w.alloc o'
  rw [h]
  rfl

theorem ins_one (k : ByteArray) (v : Value) (w : World) : (Instr.mapUpdate 34 (.map (some w.heap.size)) (.string k) v).run Tryf.prog (w.alloc (.map #[] 0)) = .ok () (w.alloc (.map #[{ key := .string k, val := v, born := 0 }] 1)) := by
  rw [run_insert_str w.heap.size #[] 0 k v (w.alloc (.map #[] 0)) (heap_alloc_new w _) rfl]
  exact congrArg (Result.ok ()) (alloc_set w _ _)

theorem find_one (k k' : ByteArray) (v : Value) : Instr.findNow .string (.string k) #[({ key := .string k', val := v, born := 0 } : MapEntry)].toList 0 = some (if k == k' then some (0, v) else none) := by
  cases h : (k == k') <;> simp [Instr.findNow, Instr.sameNow, h]

/-- The sentinel lies in the variable. -/
structure Sent (w : World) (a : Addr) (s : ByteArray) : Prop where
  var : w.cell? ⟨0, 0, none⟩ = some (.iface 60 (.pointer (some a)))
  text : w.cell? a = some (.string s)

theorem Sent.below {w w' : World} {a : Addr} {s : ByteArray} {N : Nat} (h : Sent w a s) (hb : Below N w w') (hN : w.heap.size ≤ N) : Sent w' a s :=
  ⟨(hb.cell (p := ⟨0, 0, none⟩) (Nat.lt_of_lt_of_le (World.block_lt_of_cell? w _ h.var) hN)).trans h.var, (hb.cell (p := a) (Nat.lt_of_lt_of_le (World.block_lt_of_cell? w _ h.text) hN)).trans h.text⟩

theorem neq_wrap (v : Value) (w : World) : (binOp .neq 31 (.iface 48 v) .nilIface).run Tryf.prog w = .ok (.bool true) w := by kernel_rfl
theorem neq_nil (w : World) : (binOp .neq 31 .nilIface .nilIface).run Tryf.prog w = .ok (.bool false) w := by kernel_rfl

/-- What lies at the key of a map of one entry. -/
theorem one_at (k : ByteArray) (v : Value) (w : World) : (w.alloc (.map #[{ key := .string k, val := v, born := 0 }] 1)).heap[w.heap.size]? = some (.map #[{ key := .string k, val := v, born := 0 }] 1) := heap_alloc_new w _

theorem find_max (v : Value) : Instr.findNow .string (.string maxB) #[({ key := .string ⟨#[109, 97, 120]⟩, val := v, born := 0 } : MapEntry)].toList 0 = some (some (0, v)) := by
  rw [find_one]; rfl

/-- checkBatch of a map that was just made with one entry, at the key, refused. -/
theorem batch_one (F : Interp) (v : Value) (a : Addr) (s : ByteArray) (w : World) (hF : F.answers w.tape) (hS : Sent w a s) (hv : Fit (some (0, v))) (ho : intAt (some (0, v)) < 1 ∨ 64 < intAt (some (0, v))) :
    Calls Tryf.prog 12 #[.map (some w.heap.size)] (w.alloc (.map #[{ key := .string ⟨#[109, 97, 120]⟩, val := v, born := 0 }] 1)) fun e w' => ∃ p, e = .returned (.iface 48 (.pointer (some ⟨p, 0, none⟩))) ∧ w'.cell? ⟨p, 1, none⟩ = some (.iface 60 (.pointer (some a))) ∧ Sent w' a s ∧ Below w.heap.size w w' := by
  have hb1 : Below w.heap.size w (w.alloc (.map #[{ key := .string ⟨#[109, 97, 120]⟩, val := v, born := 0 }] 1)) := (Below.refl _ _).alloc (Nat.le_refl _) _
  have hS1 := hS.below hb1 (Nat.le_refl _)
  refine (batch_out F w.heap.size _ 1 (some (0, v)) a s _ (by exact hF) hS1.var hS1.text (one_at _ v w) (find_max v) hv rfl ho).mono ?_
  rintro e w2 ⟨rfl, hc2, hb2, hs2⟩
  exact ⟨_, rfl, hc2, hS1.below hb2 (Nat.le_refl _), hb1.trans (hb2.mono (by simp))⟩

set_option maxHeartbeats 400000 in
theorem zzMax_out (F : Interp) (n : Int) (a : Addr) (s : ByteArray) (w : World) (hF : F.answers w.tape) (hS : Sent w a s) (hn : n < 1 ∨ 64 < n) :
    Calls Tryf.prog 6 #[.int .i64 n] w fun e w' => e = .returned (.tuple #[.bool true, .bool true]) ∧ Below w.heap.size w w' := by
  have hmm := @run_makeMap Tryf.prog
  have hin := ins_one ⟨#[109, 97, 120]⟩ (.iface 3 (.int .i64 n)) w
  have hq1 := neq_wrap
  have HF : Hid (F.answers w.tape) := hF
  clear hF
  go_enter Tryf.func6, Tryf.ntmps6
  go_wp2_with fail
  refine (batch_one F (.iface 3 (.int .i64 n)) a s w HF.out hS (.inr (.inl ⟨0, n, rfl⟩)) hn).mono ?_
  rintro e w2 ⟨p, rfl, hc2, hS2, hbel⟩
  have hg2 := hS2.var
  clear hin hS2
  go_wp2
  go_region_with (go_at_call 13; refine (is_wrap_same _ a _ ?_).mono ?_; exact hc2; rintro e w' ⟨rfl, rfl⟩)
  all_goals (try go_wp2)
  all_goals go_ret2
  all_goals exact ⟨rfl, hbel.os, hbel.tape, hbel.output, hbel.size, hbel.block⟩

set_option maxHeartbeats 400000 in
theorem zzText (F : Interp) (t : ByteArray) (a : Addr) (s : ByteArray) (w : World) (hF : F.answers w.tape) (hS : Sent w a s) :
    Calls Tryf.prog 7 #[.string t] w fun e w' => e = .returned (.tuple #[.bool true, .bool true]) ∧ Below w.heap.size w w' := by
  have hmm := @run_makeMap Tryf.prog
  have hin := ins_one ⟨#[109, 97, 120]⟩ (.iface 9 (.string t)) w
  have hq1 := neq_wrap
  have HF : Hid (F.answers w.tape) := hF
  clear hF
  go_enter Tryf.func7, Tryf.ntmps7
  go_wp2_with fail
  refine (batch_one F (.iface 9 (.string t)) a s w HF.out hS (.inr (.inr ⟨0, t, rfl⟩)) (.inl (by simp [intAt]))).mono ?_
  rintro e w2 ⟨p, rfl, hc2, hS2, hbel⟩
  have hg2 := hS2.var
  clear hin hS2
  go_wp2
  go_region_with (go_at_call 13; refine (is_wrap_same _ a _ ?_).mono ?_; exact hc2; rintro e w' ⟨rfl, rfl⟩)
  all_goals (try go_wp2)
  all_goals go_ret2
  all_goals exact ⟨rfl, hbel.os, hbel.tape, hbel.output, hbel.size, hbel.block⟩

set_option maxHeartbeats 400000 in
theorem zzMax_in (n : Int) (a : Addr) (s : ByteArray) (w : World) (hS : Sent w a s) (h1 : 1 ≤ n) (h2 : n ≤ 64) :
    Calls Tryf.prog 6 #[.int .i64 n] w fun e w' => e = .returned (.tuple #[.bool false, .bool false]) ∧ Below w.heap.size w w' := by
  have hmm := @run_makeMap Tryf.prog
  have hin := ins_one ⟨#[109, 97, 120]⟩ (.iface 3 (.int .i64 n)) w
  have hq1 := neq_nil
  have hbel : Below w.heap.size w (w.alloc (.map #[{ key := .string ⟨#[109, 97, 120]⟩, val := .iface 3 (.int .i64 n), born := 0 }] 1)) := (Below.refl _ _).alloc (Nat.le_refl _) _
  have hg2 := (hS.below hbel (Nat.le_refl _)).var
  go_enter Tryf.func6, Tryf.ntmps6
  go_wp2_with fail
  refine (batch_ok _ _ _ _ _ (one_at _ _ w) (find_max _) (.inr (.inl ⟨0, n, rfl⟩)) (.inr ⟨h1, h2⟩)).mono ?_
  rintro e w2 ⟨rfl, rfl⟩
  clear hin
  go_wp2
  go_region_with (go_at_call 13; refine (is_nil a _).mono ?_; rintro e w' ⟨rfl, rfl⟩)
  all_goals (try go_wp2)
  all_goals go_ret2
  all_goals exact ⟨rfl, hbel.os, hbel.tape, hbel.output, hbel.size, hbel.block⟩

set_option maxHeartbeats 400000 in
theorem zzNone (a : Addr) (s : ByteArray) (w : World) (hS : Sent w a s) :
    Calls Tryf.prog 8 #[] w fun e w' => e = .returned (.tuple #[.bool false, .bool false]) ∧ Below w.heap.size w w' := by
  have hmm := @run_makeMap Tryf.prog
  have hq1 := neq_nil
  have hbel : Below w.heap.size w (w.alloc (.map #[] 0)) := (Below.refl _ _).alloc (Nat.le_refl _) _
  have hg2 := (hS.below hbel (Nat.le_refl _)).var
  go_enter Tryf.func8, Tryf.ntmps8
  go_wp2_with fail
  refine (batch_ok _ _ _ none _ (heap_alloc_new w _) rfl (.inl rfl) (.inl rfl)).mono ?_
  rintro e w2 ⟨rfl, rfl⟩
  go_wp2
  go_region_with (go_at_call 13; refine (is_nil a _).mono ?_; rintro e w' ⟨rfl, rfl⟩)
  all_goals (try go_wp2)
  all_goals go_ret2
  all_goals exact ⟨rfl, hbel.os, hbel.tape, hbel.output, hbel.size, hbel.block⟩

end Go.Proofs.Qxb6608755aFmt
