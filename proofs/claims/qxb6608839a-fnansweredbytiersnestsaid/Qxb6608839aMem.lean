/-
  THE WORDS OF MEMORY for the seat b6608839a: a node's 21 cells, a request's 55, and what '==' says of them.
-/
import Derived.Test.Qxb6608839aRows
import Derived.WalkKit
import Derived.WalkSpells
import Derived.WalkLawsBesides
import Derived.Deep.QuietTactic
import Derived.BigQuiet
import Derived.Laws.Rows
import Derived.Deep.WholeRow
import Derived.Great.BuildSlice
import Derived.Stop.BytesEq
namespace Go.Proofs.Qxb6608839a
open Go Go.RowKit

theorem Try.size22 : (Try.prog.info? 22).map (·.size) = some 20 := by kernel_rfl
theorem Try.size24 : (Try.prog.info? 24).map (·.size) = some 20 := by kernel_rfl
theorem Try.size26 : (Try.prog.info? 26).map (·.size) = some 21 := by kernel_rfl
theorem Try.size37 : (Try.prog.info? 37).map (·.size) = some 55 := by kernel_rfl

theorem array21 {α : Type} {a : Array α} (h : a.size = 21) : ∃ x0 x1 x2 x3 x4 x5 x6 x7 x8 x9 x10 x11 x12 x13 x14 x15 x16 x17 x18 x19 x20, a = #[x0, x1, x2, x3, x4, x5, x6, x7, x8, x9, x10, x11, x12, x13, x14, x15, x16, x17, x18, x19, x20] := by
  match a, h with
  | ⟨[x0, x1, x2, x3, x4, x5, x6, x7, x8, x9, x10, x11, x12, x13, x14, x15, x16, x17, x18, x19, x20]⟩, _ => exact ⟨x0, x1, x2, x3, x4, x5, x6, x7, x8, x9, x10, x11, x12, x13, x14, x15, x16, x17, x18, x19, x20, rfl⟩

theorem list20 {α : Type} {a : List α} (h : a.length = 20) : ∃ x0 x1 x2 x3 x4 x5 x6 x7 x8 x9 x10 x11 x12 x13 x14 x15 x16 x17 x18 x19, a = [x0, x1, x2, x3, x4, x5, x6, x7, x8, x9, x10, x11, x12, x13, x14, x15, x16, x17, x18, x19] := by
  match a, h with
  | [x0, x1, x2, x3, x4, x5, x6, x7, x8, x9, x10, x11, x12, x13, x14, x15, x16, x17, x18, x19], _ => exact ⟨x0, x1, x2, x3, x4, x5, x6, x7, x8, x9, x10, x11, x12, x13, x14, x15, x16, x17, x18, x19, rfl⟩

/-- A request to the node T: known by its address alone or not ('u'), a walk's or not ('k'). -/
structure Req (R T : Array Value) (u k : Bool) : Prop where
  size : R.size = 55
  one : R.all (·.oneCell') = true
  to : R.extract 0 21 = T
  at20 : R[20]? = T[20]?
  unnamed : R[52]? = some (.bool u)
  walk : ∃ a, R[23]? = some (.pointer a) ∧ a.isSome = k

theorem hidE {p : Prop} (h : p) : Hid p := h

theorem oc_s (s : ByteArray) : (Value.string s).oneCell' = true := rfl
theorem oc_i (k : IntKind) (i : Int) : (Value.int k i).oneCell' = true := rfl
theorem oc_b (b : Bool) : (Value.bool b).oneCell' = true := rfl
theorem oc_p (a : Option Addr) : (Value.pointer a).oneCell' = true := rfl

theorem req_plain (T : Array Value) (u : Bool) (hT : T.size = 21) (h1 : T.all (·.oneCell') = true) :
    ∃ R, Try.prog.built 37 [(0, .agg T), (12, .bool u)] = some R ∧ Req R T u false := by
  obtain ⟨x0, x1, x2, x3, x4, x5, x6, x7, x8, x9, x10, x11, x12, x13, x14, x15, x16, x17, x18, x19, x20, rfl⟩ := array21 hT
  refine ⟨#[x0, x1, x2, x3, x4, x5, x6, x7, x8, x9, x10, x11, x12, x13, x14, x15, x16, x17, x18, x19, x20, .string ⟨#[]⟩, .int .i64 0, .pointer none, .int .u8 0, .int .u8 0, .int .u8 0, .int .u8 0, .int .u8 0, .int .u8 0, .int .u8 0, .int .u8 0, .int .u8 0, .int .u8 0, .int .u8 0, .int .u8 0, .int .u8 0, .int .u8 0, .int .u8 0, .int .u8 0, .int .u8 0, .int .u8 0, .int .u8 0, .int .u8 0, .string ⟨#[]⟩, .pointer none, .pointer none, .pointer none, .pointer none, .int .i64 0, .int .i64 0, .bool false, .bool u, .bool false, .int .i64 0], by kernel_rfl, ?_⟩
  simp at h1
  exact ⟨by kernel_rfl, by simp [h1, oc_s, oc_i, oc_b, oc_p], by kernel_rfl, by kernel_rfl, by kernel_rfl, none, by kernel_rfl, rfl⟩

theorem req_walk (T : Array Value) (u : Bool) (p : Addr) (hT : T.size = 21) (h1 : T.all (·.oneCell') = true) :
    ∃ R, Try.prog.built 37 [(0, .agg T), (12, .bool u), (3, .pointer (some p))] = some R ∧ Req R T u true := by
  obtain ⟨x0, x1, x2, x3, x4, x5, x6, x7, x8, x9, x10, x11, x12, x13, x14, x15, x16, x17, x18, x19, x20, rfl⟩ := array21 hT
  refine ⟨#[x0, x1, x2, x3, x4, x5, x6, x7, x8, x9, x10, x11, x12, x13, x14, x15, x16, x17, x18, x19, x20, .string ⟨#[]⟩, .int .i64 0, .pointer (some p), .int .u8 0, .int .u8 0, .int .u8 0, .int .u8 0, .int .u8 0, .int .u8 0, .int .u8 0, .int .u8 0, .int .u8 0, .int .u8 0, .int .u8 0, .int .u8 0, .int .u8 0, .int .u8 0, .int .u8 0, .int .u8 0, .int .u8 0, .int .u8 0, .int .u8 0, .int .u8 0, .string ⟨#[]⟩, .pointer none, .pointer none, .pointer none, .pointer none, .int .i64 0, .int .i64 0, .bool false, .bool u, .bool false, .int .i64 0], by kernel_rfl, ?_⟩
  simp at h1
  exact ⟨by kernel_rfl, by simp [h1, oc_s, oc_i, oc_b, oc_p], by kernel_rfl, by kernel_rfl, by kernel_rfl, some p, by kernel_rfl, rfl⟩

/-- The cells of an id, and of a node. -/
def ida (xs : List UInt8) : Array Value := (xs.map Extern.Stop.cell).toArray
def pa (xs : List UInt8) (s : ByteArray) : Array Value := (ida xs).push (.string s)

theorem ida_size {xs : List UInt8} (h : xs.length = 20) : (ida xs).size = 20 := by simp [ida, h]
theorem pa_size {xs : List UInt8} {s : ByteArray} (h : xs.length = 20) : (pa xs s).size = 21 := by simp [pa, ida, h]
theorem ida_one (xs : List UInt8) : (ida xs).all (·.oneCell') = true := by
  simp [ida, Extern.Stop.cell, Value.oneCell']
theorem pa_one (xs : List UInt8) (s : ByteArray) : (pa xs s).all (·.oneCell') = true := by
  rw [pa, Array.all_push, ida_one]; rfl
theorem pa_20 {xs : List UInt8} {s : ByteArray} (h : xs.length = 20) : (pa xs s)[20]? = some (.string s) := by
  have := ida_size h
  rw [pa, Array.getElem?_push, if_pos this.symm]

theorem built_peer {xs : List UInt8} {s : ByteArray} (h : xs.length = 20) : Try.prog.built 26 [(0, .agg (ida xs)), (1, .string s)] = some (pa xs s) := by
  obtain ⟨x0, x1, x2, x3, x4, x5, x6, x7, x8, x9, x10, x11, x12, x13, x14, x15, x16, x17, x18, x19, rfl⟩ := list20 h
  kernel_rfl

theorem eq_id {xs ys : List UInt8} (hx : xs.length = 20) (hy : ys.length = 20) (w : World) : (binOp .eql 22 (.agg (ida xs)) (.agg (ida ys))).run Try.prog w = .ok (.bool (xs == ys)) w :=
  run_eql_bytes w 22 5 20 Try.underlying22 Try.underlying5 (fun w => by kernel_rfl) xs ys hx hy

theorem part_id {xs : List UInt8} {s : ByteArray} (hx : xs.length = 20) (w : World) : (part 24 (pa xs s) 0).run Try.prog w = .ok (.agg (ida xs)) w := by
  obtain ⟨x0, x1, x2, x3, x4, x5, x6, x7, x8, x9, x10, x11, x12, x13, x14, x15, x16, x17, x18, x19, rfl⟩ := list20 hx
  kernel_rfl

end Go.Proofs.Qxb6608839a
