/-
  THE WALKS OF ZZcheckBatchOther AND ZZcheckBatchMaxAnd: a key that is not the key max.
-/
import Derived.Test.Qxb6608755aFmtZzW
namespace Go.Proofs.Qxb6608755aFmt
open Go Go.RowKit Go.Extern.Stop Go.Stop Go.Extern

theorem find_two (k k1 k2 : ByteArray) (v1 v2 : Value) : Instr.findNow .string (.string k) #[({ key := .string k1, val := v1, born := 0 } : MapEntry), { key := .string k2, val := v2, born := 1 }].toList 0 = some (if k == k1 then some (0, v1) else if k == k2 then some (1, v2) else none) := by
  cases h1 : (k == k1) <;> cases h2 : (k == k2) <;> simp [Instr.findNow, Instr.sameNow, h1, h2]

theorem ins_two (k1 k2 : ByteArray) (v1 v2 : Value) (w : World) (hne : (k2 == k1) = false) :
    (Instr.mapUpdate 34 (.map (some w.heap.size)) (.string k2) v2).run Tryf.prog (w.alloc (.map #[{ key := .string k1, val := v1, born := 0 }] 1)) = .ok () (w.alloc (.map #[{ key := .string k1, val := v1, born := 0 }, { key := .string k2, val := v2, born := 1 }] 2)) := by
  rw [run_insert_str w.heap.size _ 1 k2 v2 _ (heap_alloc_new w _) (by rw [find_one, hne]; rfl)]
  exact congrArg (Result.ok ()) (alloc_set w _ _)

set_option maxHeartbeats 400000 in
theorem zzOther (key : ByteArray) (v : Int) (a : Addr) (s : ByteArray) (w : World) (hS : Sent w a s) (hk : (maxB == key) = false) :
    Calls Tryf.prog 11 #[.string key, .int .i64 v] w fun e w' => e = .returned (.tuple #[.bool false, .bool false]) ∧ Below w.heap.size w w' := by
  have hmm := @run_makeMap Tryf.prog
  have hin := ins_one key (.iface 3 (.int .i64 v)) w
  have hq1 := neq_nil
  have hbel : Below w.heap.size w (w.alloc (.map #[{ key := .string key, val := .iface 3 (.int .i64 v), born := 0 }] 1)) := (Below.refl _ _).alloc (Nat.le_refl _) _
  have hg2 := (hS.below hbel (Nat.le_refl _)).var
  have HK : Hid ((maxB == key) = false) := hk
  clear hk
  go_enter Tryf.func11, Tryf.ntmps11
  go_wp2_with fail
  refine (batch_ok _ _ _ none _ (one_at _ _ w) (by rw [find_one, HK.out]; rfl) (.inl rfl) (.inl rfl)).mono ?_
  rintro e w2 ⟨rfl, rfl⟩
  clear hin
  go_wp2
  go_region_with (go_at_call 13; refine (is_nil a _).mono ?_; rintro e w' ⟨rfl, rfl⟩)
  all_goals (try go_wp2)
  all_goals go_ret2
  all_goals exact ⟨rfl, hbel.os, hbel.tape, hbel.output, hbel.size, hbel.block⟩

/-- The two maps that the two orders of laying the entries make. -/
def TwoMaps (n : Int) (key : ByteArray) (v : Int) (w W : World) : Prop :=
  W = (w.alloc (.map #[{ key := .string ⟨#[109, 97, 120]⟩, val := .iface 3 (.int .i64 n), born := 0 }, { key := .string key, val := .iface 3 (.int .i64 v), born := 1 }] 2)).drew ∨
  W = (w.alloc (.map #[{ key := .string key, val := .iface 3 (.int .i64 v), born := 0 }, { key := .string ⟨#[109, 97, 120]⟩, val := .iface 3 (.int .i64 n), born := 1 }] 2)).drew

theorem TwoMaps.facts {n : Int} {key : ByteArray} {v : Int} {w W : World} (h : TwoMaps n key v w W) (hk : (maxB == key) = false) :
    Below w.heap.size w W ∧ ∃ es cl i, W.heap[w.heap.size]? = some (.map es cl) ∧ Instr.findNow .string (.string maxB) es.toList 0 = some (some (i, .iface 3 (.int .i64 n))) := by
  rcases h with rfl | rfl
  · exact ⟨((Below.refl _ _).alloc (Nat.le_refl _) _).drew, _, _, 0, heap_alloc_new w _, by rw [find_two]; rfl⟩
  · exact ⟨((Below.refl _ _).alloc (Nat.le_refl _) _).drew, _, _, 1, heap_alloc_new w _, by rw [find_two, hk]; rfl⟩

theorem batch_two_out (F : Interp) (n : Int) (key : ByteArray) (v : Int) (a : Addr) (s : ByteArray) (w W : World) (hF : F.answers w.tape) (hS : Sent w a s) (hk : (maxB == key) = false) (ho : n < 1 ∨ 64 < n) (hW : TwoMaps n key v w W) :
    Calls Tryf.prog 12 #[.map (some w.heap.size)] W fun e w' => ∃ p, e = .returned (.iface 48 (.pointer (some ⟨p, 0, none⟩))) ∧ w'.cell? ⟨p, 1, none⟩ = some (.iface 60 (.pointer (some a))) ∧ w'.cell? ⟨0, 0, none⟩ = some (.iface 60 (.pointer (some a))) ∧ Below w.heap.size w w' := by
  obtain ⟨hb1, es, cl, i, hb, hf⟩ := hW.facts hk
  have hS1 := hS.below hb1 (Nat.le_refl _)
  refine (batch_out F w.heap.size es cl (some (i, .iface 3 (.int .i64 n))) a s W (by rw [hb1.tape]; exact hF) hS1.var hS1.text hb hf (.inr (.inl ⟨i, n, rfl⟩)) rfl ho).mono ?_
  rintro e w2 ⟨rfl, hc2, hb2, hs2⟩
  exact ⟨_, rfl, hc2, (hS1.below hb2 (Nat.le_refl _)).var, hb1.trans (hb2.mono hb1.size)⟩

theorem batch_two_in (n : Int) (key : ByteArray) (v : Int) (a : Addr) (s : ByteArray) (w W : World) (hS : Sent w a s) (hk : (maxB == key) = false) (h1 : 1 ≤ n) (h2 : n ≤ 64) (hW : TwoMaps n key v w W) :
    Calls Tryf.prog 12 #[.map (some w.heap.size)] W fun e w' => e = .returned .nilIface ∧ w'.cell? ⟨0, 0, none⟩ = some (.iface 60 (.pointer (some a))) ∧ Below w.heap.size w w' := by
  obtain ⟨hb1, es, cl, i, hb, hf⟩ := hW.facts hk
  have hS1 := hS.below hb1 (Nat.le_refl _)
  refine (batch_ok w.heap.size es cl (some (i, .iface 3 (.int .i64 n))) W hb hf (.inr (.inl ⟨i, n, rfl⟩)) (.inr ⟨h1, h2⟩)).mono ?_
  rintro e w2 ⟨rfl, rfl⟩
  exact ⟨rfl, hS1.var, hb1⟩

set_option maxHeartbeats 1000000 in
theorem zzAnd_out (F : Interp) (n : Int) (key : ByteArray) (v : Int) (a : Addr) (s : ByteArray) (w : World) (hF : F.answers w.tape) (hS : Sent w a s) (hk : (maxB == key) = false) (hk' : (key == maxB) = false) (hn : n < 1 ∨ 64 < n) :
    Calls Tryf.prog 10 #[.int .i64 n, .string key, .int .i64 v] w fun e w' => e = .returned (.tuple #[.bool true, .bool true]) ∧ Below w.heap.size w w' := by
  have hmm := @run_makeMap Tryf.prog
  have i1 : (Instr.mapUpdate 34 (.map (some w.heap.size)) (.string ⟨#[109, 97, 120]⟩) (.iface 3 (.int .i64 n))).run Tryf.prog (w.alloc (.map #[] 0)).drew = .ok () (w.alloc (.map #[{ key := .string ⟨#[109, 97, 120]⟩, val := .iface 3 (.int .i64 n), born := 0 }] 1)).drew := ins_one ⟨#[109, 97, 120]⟩ (.iface 3 (.int .i64 n)) w.drew
  have i2 : (Instr.mapUpdate 34 (.map (some w.heap.size)) (.string key) (.iface 3 (.int .i64 v))).run Tryf.prog (w.alloc (.map #[] 0)).drew = .ok () (w.alloc (.map #[{ key := .string key, val := .iface 3 (.int .i64 v), born := 0 }] 1)).drew := ins_one key (.iface 3 (.int .i64 v)) w.drew
  have i3 : (Instr.mapUpdate 34 (.map (some w.heap.size)) (.string key) (.iface 3 (.int .i64 v))).run Tryf.prog (w.alloc (.map #[{ key := .string ⟨#[109, 97, 120]⟩, val := .iface 3 (.int .i64 n), born := 0 }] 1)).drew = .ok () (w.alloc (.map #[{ key := .string ⟨#[109, 97, 120]⟩, val := .iface 3 (.int .i64 n), born := 0 }, { key := .string key, val := .iface 3 (.int .i64 v), born := 1 }] 2)).drew := ins_two ⟨#[109, 97, 120]⟩ key (.iface 3 (.int .i64 n)) (.iface 3 (.int .i64 v)) w.drew hk'
  have i4 : (Instr.mapUpdate 34 (.map (some w.heap.size)) (.string ⟨#[109, 97, 120]⟩) (.iface 3 (.int .i64 n))).run Tryf.prog (w.alloc (.map #[{ key := .string key, val := .iface 3 (.int .i64 v), born := 0 }] 1)).drew = .ok () (w.alloc (.map #[{ key := .string key, val := .iface 3 (.int .i64 v), born := 0 }, { key := .string ⟨#[109, 97, 120]⟩, val := .iface 3 (.int .i64 n), born := 1 }] 2)).drew := ins_two key ⟨#[109, 97, 120]⟩ (.iface 3 (.int .i64 v)) (.iface 3 (.int .i64 n)) w.drew hk
  have hq1 := neq_wrap
  have HF : Hid (F.answers w.tape) := hF
  have HK : Hid ((maxB == key) = false) := hk
  clear hF hk hk'
  go_enter Tryf.func10, Tryf.ntmps10
  go_wp2
  go_region_with (go_at_call 12; refine (batch_two_out F n key v a s w _ HF.out hS HK.out hn ?_).mono ?_; (first | exact .inl rfl | exact .inr rfl); rintro e w2 ⟨p, rfl, hc2, hg2, hbel⟩)
  all_goals clear i1 i2 i3 i4
  all_goals go_wp2
  all_goals go_region_with (go_at_call 13; refine (is_wrap_same _ a _ ?_).mono ?_; exact hc2; rintro e w' ⟨rfl, rfl⟩)
  all_goals (try go_wp2)
  all_goals go_ret2
  all_goals exact ⟨rfl, hbel.os, hbel.tape, hbel.output, hbel.size, hbel.block⟩

set_option maxHeartbeats 1000000 in
theorem zzAnd_in (n : Int) (key : ByteArray) (v : Int) (a : Addr) (s : ByteArray) (w : World) (hS : Sent w a s) (hk : (maxB == key) = false) (hk' : (key == maxB) = false) (h1 : 1 ≤ n) (h2 : n ≤ 64) :
    Calls Tryf.prog 10 #[.int .i64 n, .string key, .int .i64 v] w fun e w' => e = .returned (.tuple #[.bool false, .bool false]) ∧ Below w.heap.size w w' := by
  have hmm := @run_makeMap Tryf.prog
  have i1 : (Instr.mapUpdate 34 (.map (some w.heap.size)) (.string ⟨#[109, 97, 120]⟩) (.iface 3 (.int .i64 n))).run Tryf.prog (w.alloc (.map #[] 0)).drew = .ok () (w.alloc (.map #[{ key := .string ⟨#[109, 97, 120]⟩, val := .iface 3 (.int .i64 n), born := 0 }] 1)).drew := ins_one ⟨#[109, 97, 120]⟩ (.iface 3 (.int .i64 n)) w.drew
  have i2 : (Instr.mapUpdate 34 (.map (some w.heap.size)) (.string key) (.iface 3 (.int .i64 v))).run Tryf.prog (w.alloc (.map #[] 0)).drew = .ok () (w.alloc (.map #[{ key := .string key, val := .iface 3 (.int .i64 v), born := 0 }] 1)).drew := ins_one key (.iface 3 (.int .i64 v)) w.drew
  have i3 : (Instr.mapUpdate 34 (.map (some w.heap.size)) (.string key) (.iface 3 (.int .i64 v))).run Tryf.prog (w.alloc (.map #[{ key := .string ⟨#[109, 97, 120]⟩, val := .iface 3 (.int .i64 n), born := 0 }] 1)).drew = .ok () (w.alloc (.map #[{ key := .string ⟨#[109, 97, 120]⟩, val := .iface 3 (.int .i64 n), born := 0 }, { key := .string key, val := .iface 3 (.int .i64 v), born := 1 }] 2)).drew := ins_two ⟨#[109, 97, 120]⟩ key (.iface 3 (.int .i64 n)) (.iface 3 (.int .i64 v)) w.drew hk'
  have i4 : (Instr.mapUpdate 34 (.map (some w.heap.size)) (.string ⟨#[109, 97, 120]⟩) (.iface 3 (.int .i64 n))).run Tryf.prog (w.alloc (.map #[{ key := .string key, val := .iface 3 (.int .i64 v), born := 0 }] 1)).drew = .ok () (w.alloc (.map #[{ key := .string key, val := .iface 3 (.int .i64 v), born := 0 }, { key := .string ⟨#[109, 97, 120]⟩, val := .iface 3 (.int .i64 n), born := 1 }] 2)).drew := ins_two key ⟨#[109, 97, 120]⟩ (.iface 3 (.int .i64 v)) (.iface 3 (.int .i64 n)) w.drew hk
  have hq1 := neq_nil
  have HK : Hid ((maxB == key) = false) := hk
  clear hk hk'
  go_enter Tryf.func10, Tryf.ntmps10
  go_wp2
  go_region_with (go_at_call 12; refine (batch_two_in n key v a s w _ hS HK.out h1 h2 ?_).mono ?_; (first | exact .inl rfl | exact .inr rfl); rintro e w2 ⟨rfl, hg2, hbel⟩)
  all_goals clear i1 i2 i3 i4
  all_goals go_wp2
  all_goals go_region_with (go_at_call 13; refine (is_nil a _).mono ?_; rintro e w' ⟨rfl, rfl⟩)
  all_goals (try go_wp2)
  all_goals go_ret2
  all_goals exact ⟨rfl, hbel.os, hbel.tape, hbel.output, hbel.size, hbel.block⟩

end Go.Proofs.Qxb6608755aFmt
