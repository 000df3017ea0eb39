/-
  THE WALKS OF Args.Int, Args.Has, checkBatch.
-/
import Derived.Test.Qxb6608755aFmtFacts
namespace Go.Proofs.Qxb6608755aFmt
open Go Go.RowKit Go.Extern.Stop Go.Stop Go.Extern

/-- The key. -/
def maxB : ByteArray := ⟨#[109, 97, 120]⟩

/-- What 'a[max].(int)' gives of what lies there. -/
def intAt : Option (Nat × Value) → Int
  | some (_, .iface 3 (.int .i64 n)) => n
  | _ => 0

/-- What may lie at the key: nothing, an int, a string. -/
def Fit (r : Option (Nat × Value)) : Prop := r = none ∨ (∃ i n, r = some (i, .iface 3 (.int .i64 n))) ∨ ∃ i s, r = some (i, .iface 9 (.string s))

theorem ta_nil (w : World) : (Instr.typeAssert .nilIface 20 3 true).run Tryf.prog w = .ok (.tuple #[.int .i64 0, .bool false]) w := by kernel_rfl
theorem ta_int (n : Int) (w : World) : (Instr.typeAssert (.iface 3 (.int .i64 n)) 20 3 true).run Tryf.prog w = .ok (.tuple #[.int .i64 n, .bool true]) w := by kernel_rfl
theorem ta_str (s : ByteArray) (w : World) : (Instr.typeAssert (.iface 9 (.string s)) 20 3 true).run Tryf.prog w = .ok (.tuple #[.int .i64 0, .bool false]) w := by kernel_rfl

set_option maxHeartbeats 400000 in
theorem argsInt (b : Nat) (es : Array MapEntry) (cl : Nat) (r : Option (Nat × Value)) (w : World) (hb : w.heap[b]? = some (.map es cl)) (hf : Instr.findNow .string (.string maxB) es.toList 0 = some r) (hr : Fit r) :
    Calls Tryf.prog 14 #[.map (some b), .string ⟨#[109, 97, 120]⟩] w fun e w' => e = .returned (.int .i64 (intAt r)) ∧ w = w' := by
  have hl := run_lookup_str b es cl maxB r false w hb hf
  unfold maxB at hl
  have t1 := ta_nil
  have t2 := ta_int
  have t3 := ta_str
  rcases hr with rfl | ⟨i, n, rfl⟩ | ⟨i, s, rfl⟩
  all_goals
    simp at hl
    clear hf
    go_enter Tryf.func14, Tryf.ntmps14
    go_wp2
    go_ret
    exact ⟨rfl, rfl⟩

set_option maxHeartbeats 400000 in
theorem argsHas (b : Nat) (es : Array MapEntry) (cl : Nat) (r : Option (Nat × Value)) (w : World) (hb : w.heap[b]? = some (.map es cl)) (hf : Instr.findNow .string (.string maxB) es.toList 0 = some r) :
    Calls Tryf.prog 15 #[.map (some b), .string ⟨#[109, 97, 120]⟩] w fun e w' => e = .returned (.bool r.isSome) ∧ w = w' := by
  have hl := run_lookup_str b es cl maxB r true w hb hf
  unfold maxB at hl
  simp at hl
  clear hf
  go_enter Tryf.func15, Tryf.ntmps15
  go_wp2
  go_ret
  exact ⟨rfl, rfl⟩

set_option maxHeartbeats 400000 in
/-- checkBatch: nothing at the key, or an int from 1 to 64: no refusal. -/
theorem batch_ok (b : Nat) (es : Array MapEntry) (cl : Nat) (r : Option (Nat × Value)) (w : World) (hb : w.heap[b]? = some (.map es cl)) (hf : Instr.findNow .string (.string maxB) es.toList 0 = some r) (hr : Fit r) (ho : r = none ∨ (1 ≤ intAt r ∧ intAt r ≤ 64)) :
    Calls Tryf.prog 12 #[.map (some b)] w fun e w' => e = .returned .nilIface ∧ w = w' := by
  have HF : Hid (Instr.findNow .string (.string maxB) es.toList 0 = some r) := hf
  have HB : Hid (w.heap[b]? = some (.map es cl)) := hb
  clear hf hb
  rcases ho with rfl | ⟨h1, h2⟩
  · go_enter Tryf.func12, Tryf.ntmps12
    go_wp2_with fail
    refine (argsInt b es cl none w HB.out HF.out hr).mono ?_
    rintro e w1 ⟨rfl, rfl⟩
    go_wp2_with fail
    refine (argsHas b es cl none w HB.out HF.out).mono ?_
    rintro e w1 ⟨rfl, rfl⟩
    go_wp2
    go_ret
    exact ⟨rfl, rfl⟩
  · have hs : r.isSome = true := by
      cases r with
      | none => simp [intAt] at h1
      | some p => rfl
    have HI : Hid (r.isSome = true) := hs
    generalize hk : intAt r = k at h1 h2
    have HK : Hid (intAt r = k) := hk
    clear hs hk
    go_enter Tryf.func12, Tryf.ntmps12
    go_wp2_with fail
    refine (argsInt b es cl r w HB.out HF.out hr).mono ?_
    rintro e w1 ⟨rfl, rfl⟩
    rw [HK.out]
    go_wp2_with fail
    refine (argsHas b es cl r w HB.out HF.out).mono ?_
    rintro e w1 ⟨rfl, rfl⟩
    rw [HI.out]
    go_wp2
    go_ret
    exact ⟨rfl, rfl⟩

theorem fin_world (w : World) (o : Obj) (t u : Value) : (((w.alloc o).alloc (.cells #[t, u] 88)).drew).cell? ⟨w.heap.size + 1, 1, none⟩ = some u ∧ Below w.heap.size w (((w.alloc o).alloc (.cells #[t, u] 88)).drew) ∧ w.heap.size + 1 < (((w.alloc o).alloc (.cells #[t, u] 88)).drew).heap.size := by
  refine ⟨?_, (((Below.refl _ _).alloc (Nat.le_refl _) _).alloc (by simp) _).drew, by simp⟩
  have h := heap_alloc_new (w.alloc o) (.cells #[t, u] 88)
  have hs : (w.alloc o).heap.size = w.heap.size + 1 := by simp
  rw [hs] at h
  exact cell_of_row (((w.alloc o).alloc (.cells #[t, u] 88)).drew) (w.heap.size + 1) 1 #[t, u] 88 (0, 0) h

attribute [local go_sem] call19 guardF fmt0 fmt0r op3_100w ptr60 elem60 isError60 ptr48 elem48 isError48

set_option maxHeartbeats 1000000 in
/-- checkBatch: something at the key whose number is not from 1 to 64: a new error that wraps the sentinel. -/
theorem batch_out (F : Interp) (b : Nat) (es : Array MapEntry) (cl : Nat) (r : Option (Nat × Value)) (a : Addr) (s : ByteArray) (w : World) (hF : F.answers w.tape) (hg : w.cell? ⟨0, 0, none⟩ = some (.iface 60 (.pointer (some a)))) (hs : w.cell? a = some (.string s))
    (hb : w.heap[b]? = some (.map es cl)) (hf : Instr.findNow .string (.string maxB) es.toList 0 = some r) (hr : Fit r) (hsome : r.isSome = true) (ho : intAt r < 1 ∨ 64 < intAt r) :
    Calls Tryf.prog 12 #[.map (some b)] w fun e w' => e = .returned (.iface 48 (.pointer (some ⟨w.heap.size + 1, 0, none⟩))) ∧ w'.cell? ⟨w.heap.size + 1, 1, none⟩ = some (.iface 60 (.pointer (some a))) ∧ Below w.heap.size w w' ∧ w.heap.size + 1 < w'.heap.size := by
  have HF : Hid (Instr.findNow .string (.string maxB) es.toList 0 = some r) := hf
  have HB : Hid (w.heap[b]? = some (.map es cl)) := hb
  have HI : Hid (r.isSome = true) := hsome
  clear hf hb hsome
  have hF' := hF
  unfold Interp.answers at hF'
  have hal := World.block_lt_of_cell? w a hs
  have hop := fun (o : Obj) => opPlain60_119w "fmt.errorf" a s (w.alloc o) ((World.cell?_of_block (a := a) (Below.heap_alloc w o a.block hal)).trans hs)
  generalize hk : intAt r = k at ho
  have HK : Hid (intAt r = k) := hk
  clear hk
  by_cases h1 : k < 1
  · go_enter Tryf.func12, Tryf.ntmps12
    go_wp2_with fail
    refine (argsInt b es cl r w HB.out HF.out hr).mono ?_
    rintro e w1 ⟨rfl, rfl⟩
    rw [HK.out]
    go_wp2_with fail
    refine (argsHas b es cl r w HB.out HF.out).mono ?_
    rintro e w1 ⟨rfl, rfl⟩
    rw [HI.out]
    go_wp2
    go_ret
    exact ⟨rfl, fin_world w _ _ _⟩
  · have h2 : 64 < k := by omega
    go_enter Tryf.func12, Tryf.ntmps12
    go_wp2_with fail
    refine (argsInt b es cl r w HB.out HF.out hr).mono ?_
    rintro e w1 ⟨rfl, rfl⟩
    rw [HK.out]
    go_wp2_with fail
    refine (argsHas b es cl r w HB.out HF.out).mono ?_
    rintro e w1 ⟨rfl, rfl⟩
    rw [HI.out]
    go_wp2
    go_ret
    exact ⟨rfl, fin_world w _ _ _⟩

end Go.Proofs.Qxb6608755aFmt
