/-
  WHAT '==' SAYS OF TWO NODES.
-/
import Derived.Test.Qxb6608839aMem
namespace Go.Proofs.Qxb6608839a
open Go Go.RowKit

theorem eq_parts {xs ys : List UInt8} (hx : xs.length = 20) (hy : ys.length = 20) (w : World) : (Op.equalIn 9999 24 (.agg (ida xs)) (.agg (ida ys))).run Try.prog w = .ok (xs == ys) w :=
  run_equalIn_bytes w 9997 24 5 20 Try.underlying24 Try.underlying5 (fun w => by kernel_rfl) xs ys hx hy

theorem eq_addr (s t : ByteArray) (w : World) : (Op.equalIn 9999 9 (.string s) (.string t)).run Try.prog w = .ok (s.toList == t.toList) w := run_equalIn_string w 9998 9 s t Try.underlying9

theorem part_addr {xs : List UInt8} {s : ByteArray} (hx : xs.length = 20) (w : World) : (part 9 (pa xs s) 20).run Try.prog w = .ok (.string s) w := by
  simp [part, isAgg, run_underlying Try.underlying9, pa_20 hx]

theorem fields26 : (Try.prog.fieldsOf 26).toList.map (fun f => (f.name, f.type, f.offset)) = [("ID", 24, 0), ("Addr", 9, 20)] := by kernel_rfl

theorem eqFields2 {P : Program} (d : Nat) (X Y : Array Value) (f g : Field) (w : World) (b c : Bool) (a1 a2 c1 c2 : Value) (hf : f.name ≠ "_") (hg : g.name ≠ "_")
    (p1 : (part f.type X f.offset).run P w = .ok a1 w) (p2 : (part f.type Y f.offset).run P w = .ok a2 w) (p3 : (part g.type X g.offset).run P w = .ok c1 w) (p4 : (part g.type Y g.offset).run P w = .ok c2 w)
    (e1 : (Op.equalIn d f.type a1 a2).run P w = .ok b w) (e2 : (Op.equalIn d g.type c1 c2).run P w = .ok c w) :
    (Op.eqFields d X Y [f, g]).run P w = .ok (b && c) w := by
  rw [Op.eqFields, if_pos hf]
  simp only [Sem.run_bind, p1, p2, e1, Result.andThen_ok]
  cases b
  · simp
  · rw [Op.eqFields, if_pos hg]
    simp only [Bool.not_true, Bool.false_eq_true, if_false, Sem.run_bind, p3, p4, e2, Result.andThen_ok]
    cases c <;> simp [Op.eqFields]

theorem list2 {α : Type} {l : List α} (h : l.length = 2) : ∃ a b, l = [a, b] := by
  match l, h with
  | [a, b], _ => exact ⟨a, b, rfl⟩

theorem two_fields : ∃ f g : Field, (Try.prog.fieldsOf 26).toList = [f, g] ∧ f.name = "ID" ∧ f.type = 24 ∧ f.offset = 0 ∧ g.name = "Addr" ∧ g.type = 9 ∧ g.offset = 20 := by
  have h := fields26
  generalize (Try.prog.fieldsOf 26).toList = l at h
  have hlen : l.length = 2 := by simpa using congrArg List.length h
  obtain ⟨f, g, rfl⟩ := list2 hlen
  simp at h
  exact ⟨f, g, rfl, h.1.1, h.1.2.1, h.1.2.2, h.2.1, h.2.2.1, h.2.2.2⟩

theorem struct26 : Try.prog.underlying 26 = some (.struct (Try.prog.fieldsOf 26)) := by kernel_rfl
theorem held26 : Try.prog.stoodInHeld 26 = false := by kernel_rfl

theorem eq_peer {xs ys : List UInt8} {s t : ByteArray} (hx : xs.length = 20) (hy : ys.length = 20) (w : World) :
    (binOp .eql 26 (.agg (pa xs s)) (.agg (pa ys t))).run Try.prog w = .ok (.bool (xs == ys && s.toList == t.toList)) w := by
  obtain ⟨f, g, hl, f1, f2, f3, g1, g2, g3⟩ := two_fields
  have h2 : (Op.eqFields 9999 (pa xs s) (pa ys t) [f, g]).run Try.prog w = .ok (xs == ys && s.toList == t.toList) w :=
    eqFields2 9999 _ _ f g w _ _ (.agg (ida xs)) (.agg (ida ys)) (.string s) (.string t) (by rw [f1]; decide) (by rw [g1]; decide)
      (by rw [f2, f3]; exact part_id hx w) (by rw [f2, f3]; exact part_id hy w) (by rw [g2, g3]; exact part_addr hx w) (by rw [g2, g3]; exact part_addr hy w)
      (by rw [f2]; exact eq_parts hx hy w) (by rw [g2]; exact eq_addr s t w)
  rw [run_eql_struct, run_equalIn_struct w 9999 26 _ _ struct26 held26, hl, h2, Result.andThen_ok]

end Go.Proofs.Qxb6608839a
