/-
  CLOSED FACTS over the seat's dump: what the stopped front of fmt asks and lays, and errors.Is by its contracts (after the guide's SentryFmt, SentryIs).
-/
import Derived.Test.Qxb6608755aFmtRows
import Derived.WalkKit
import Derived.Stop.CallBack
import Derived.Stop.IfaceNil
import GoSem.ClaimData
import Derived.LaidEql
import Derived.Stop.Asserts
import Derived.RowKitTokens
namespace Go.Proofs.Qxb6608755aFmt
open Go Go.RowKit Go.Extern.Stop Go.Stop Go.Extern

theorem call19 (args : Array Value) (w : World) : (callFunc 19 args).run Tryf.prog w = ((FmtStop.errorf #[9, 46] #[31] args).run Tryf.prog w).andThen fun v w' => .ok (.value v) w' :=
  run_callFunc_extern Tryf.func19 (by kernel_rfl) (by kernel_rfl) (by kernel_rfl) (by kernel_rfl) args w
theorem guardF (name : String) (w : World) : (FmtStop.guard name).run Tryf.prog w = .ok () w := by kernel_rfl
theorem fmt0 : FmtStop.printed? ⟨#[37, 119, 58, 32, 37, 100, 32, 105, 115, 32, 110, 111, 116, 32, 102, 114, 111, 109, 32, 49, 32, 116, 111, 32, 37, 100]⟩ 3 = some [(0, 119, false), (1, 100, false), (2, 100, false)] := by kernel_rfl
theorem fmt0r (w : World) : (FmtDoors.printed ⟨#[37, 119, 58, 32, 37, 100, 32, 105, 115, 32, 110, 111, 116, 32, 102, 114, 111, 109, 32, 49, 32, 116, 111, 32, 37, 100]⟩ 3).run Tryf.prog w = .ok [(0, 119, false), (1, 100, false), (2, 100, false)] w := by kernel_rfl
def shape3 : List UInt8 := [5, 3, 0, 0, 0, 0, 0, 0, 0, 105, 110, 116]
theorem op3_100w (name : String) (x : Int) (w : World) : (FmtStop.operand name true 100 false (.iface 3 (.int .i64 x))).run Tryf.prog w = .ok (shape3, Go.Extern.Stop.digits 8 (x % 2 ^ 64).toNat) w := by kernel_rfl
theorem ptr60 (w : World) : (FmtStop.ptrTo "errors.errorString").run Tryf.prog w = .ok 60 w := by kernel_rfl
theorem elem60 (w : World) : (elemOf 60).run Tryf.prog w = .ok 62 w := by kernel_rfl
theorem isError60 (w : World) : (FmtDoors.textMethod 60 "Error").run Tryf.prog w = .ok true w := by kernel_rfl
theorem ptr48 (w : World) : (FmtStop.ptrTo "fmt.wrapError").run Tryf.prog w = .ok 48 w := by kernel_rfl
theorem elem48 (w : World) : (elemOf 48).run Tryf.prog w = .ok 88 w := by kernel_rfl
theorem isError48 (w : World) : (FmtDoors.textMethod 48 "Error").run Tryf.prog w = .ok true w := by kernel_rfl

/-- The sentinel's type by its name, as the given rows spell it. -/
def nameOf : DataW Unit → String
  | .iface s _ => s
  | _ => ""
def sentName : String := nameOf Rows.laid_example_com_gantry_gantry_internal_engine_ErrWorkers
def plain60 : List UInt8 := 14 :: FmtStop.pack sentName.toUTF8.data.toList
theorem opPlain60_119w (name : String) (a : Addr) (s : ByteArray) (w : World) (hc : w.cell? a = some (.string s)) :
    (FmtStop.operand name true 119 false (.iface 60 (.pointer (some a)))).run Tryf.prog w = .ok (plain60, s.data.toList) w := by
  have h1 : (typeStr 60).run Tryf.prog w = .ok sentName w := by kernel_rfl
  have d2 : Tryf.t60.desc = .pointer 62 := rfl
  have d3 : Tryf.t62.desc = .named "errors.errorString" 61 := rfl
  simp [FmtStop.operand, h1, d2, d3, run_load, hc, plain60, sentName, nameOf, Rows.laid_example_com_gantry_gantry_internal_engine_ErrWorkers]

theorem call17 (v : Value) (w : World) : (callFunc 17 #[.iface 60 v]).run Tryf.prog w = .ok (.value (.iface 50 (.agg #[.pointer (some ⟨1, 60, none⟩)]))) w := by
  rw [@run_callFunc_extern Tryf.prog 17 _ Extern.ReflectliteType.typeOf Tryf.func17 (by kernel_rfl) (by kernel_rfl) (by kernel_rfl) (by kernel_rfl)]
  have h : (Extern.ReflectliteType.typeOf #[.iface 60 v]).run Tryf.prog w = .ok (.iface 50 (.agg #[.pointer (some ⟨1, 60, none⟩)])) w := by kernel_rfl
  rw [h]; rfl
theorem call43 (w : World) : (callFunc 43 #[.agg #[.pointer (some ⟨1, 60, none⟩)]]).run Tryf.prog w = .ok (.value (.bool true)) w := by
  rw [@run_callFunc_extern Tryf.prog 43 _ (Extern.ReflectliteType.method fun t => do Extern.Rtype.noPackHeld "Comparable" t; pure (.bool (← typeInfo t).comparable)) Tryf.func43 (by kernel_rfl) (by kernel_rfl) (by kernel_rfl) (by kernel_rfl)]
  have h : ((Extern.ReflectliteType.method fun t => do Extern.Rtype.noPackHeld "Comparable" t; pure (.bool (← typeInfo t).comparable)) #[.agg #[.pointer (some ⟨1, 60, none⟩)]]).run Tryf.prog w = .ok (.bool true) w := by kernel_rfl
  rw [h]; rfl
theorem isMethodComparable (v : Value) (w : World) : (Go.method 203 50 v "Comparable").run Tryf.prog w = .ok (43, v) w := by kernel_rfl
theorem methodUnwrap (v : Value) (w : World) : (Go.method 203 48 v "Unwrap").run Tryf.prog w = .ok (39, v) w := by kernel_rfl
theorem isComp : (Tryf.prog.info? 60).map (·.comparable) = some true := by kernel_rfl
theorem isSize : (Tryf.prog.info? 62).map (·.size) = some 1 := by kernel_rfl
theorem noIsE (v : Value) (xT : TypeId) (w : World) : (Instr.typeAssert (.iface 60 v) xT 52 true).run Tryf.prog w = .ok (.tuple #[.nilIface, .bool false]) w := run_typeAssert_lacksB Tryf.underlying52 (by kernel_rfl) (by kernel_rfl) v xT w
theorem noIsW (v : Value) (xT : TypeId) (w : World) : (Instr.typeAssert (.iface 48 v) xT 52 true).run Tryf.prog w = .ok (.tuple #[.nilIface, .bool false]) w := run_typeAssert_lacksB Tryf.underlying52 (by kernel_rfl) (by kernel_rfl) v xT w
theorem hasUnwrapW (v : Value) (xT : TypeId) (w : World) : (Instr.typeAssert (.iface 48 v) xT 55 true).run Tryf.prog w = .ok (.tuple #[.iface 48 v, .bool true]) w := run_typeAssert_hasB Tryf.underlying55 (by kernel_rfl) v xT w

/-- errors.Is(nil, x). -/
theorem is_nil (b : Addr) (w : World) :
    Calls Tryf.prog 13 #[.nilIface, .iface 60 (.pointer (some b))] w fun e w' => e = .returned (.bool false) ∧ w' = w := by
  have hn := run_eql_iface_nil_left (P := Tryf.prog) w 60 (.pointer (some b)) Tryf.underlying31
  go_enter Tryf.func13, Tryf.ntmps13
  go_wp2
  go_ret
  exact ⟨rfl, rfl⟩

/-- errors.Is(e, x), e a wrapping error that wraps x itself: one Unwrap, then equal. -/
theorem is_wrap_same (pb : Nat) (b : Addr) (w : World) (h1 : w.cell? ⟨pb, 1, none⟩ = some (.iface 60 (.pointer (some b)))) :
    Calls Tryf.prog 13 #[.iface 48 (.pointer (some ⟨pb, 0, none⟩)), .iface 60 (.pointer (some b))] w fun e w' => e = .returned (.bool true) ∧ w' = w := by
  obtain ⟨i, hi, hcmp⟩ := Option.map_eq_some_iff.1 isComp
  obtain ⟨j, hj, hjs⟩ := Option.map_eq_some_iff.1 isSize
  have h8 := call17
  have h32 := call43
  have mR := isMethodComparable
  have mU := methodUnwrap
  have nE := noIsE
  have nW := noIsW
  have uW := hasUnwrapW
  have heq := run_eql_iface_ptr_same (P := Tryf.prog) w b Tryf.underlying31 Tryf.underlying60 hi hcmp hj
  have hty := run_eql_iface_types (P := Tryf.prog) 48 60 (.pointer (some ⟨pb, 0, none⟩)) (.pointer (some b)) Tryf.underlying31 (by decide) w
  go_enter Tryf.func13, Tryf.ntmps13
  go_wp2
  refine wp_loop_rounds 2 ?_
  rw [rounds_succ]
  go_wp2
  rw [rounds_succ]
  go_wp2
  go_ret
  exact ⟨rfl, rfl⟩

/-! ### Maps from strings to interface values -/

theorem run_ck (em : Bool) (k : ByteArray) (w : World) : (Instr.checkKey em 10000 9 (.string k)).run Tryf.prog w = .ok () w := by kernel_rfl

/-- A look-up at a string key, the entries known. -/
theorem run_lookup_str (b : Nat) (es : Array MapEntry) (cl : Nat) (k : ByteArray) (r : Option (Nat × Value)) (ok : Bool) (w : World) (hb : w.heap[b]? = some (.map es cl)) (hf : Instr.findNow .string (.string k) es.toList 0 = some r) :
    (Instr.lookup 34 (.map (some b)) (.string k) ok).run Tryf.prog w = .ok (if ok then .tuple #[(r.map (·.2)).getD .nilIface, .bool r.isSome] else (r.map (·.2)).getD .nilIface) w := by
  have h34 := run_underlying (w := w) Tryf.underlying34
  have h9 := run_underlying (w := w) Tryf.underlying9
  have hz : (zeroValue 20).run Tryf.prog w = .ok .nilIface w := by kernel_rfl
  have hg : (getObj b).run Tryf.prog w = .ok (.map es cl) w := by simp [getObj, Sem.run, hb]
  have hk : (Instr.findKey 9 (.string k) es.toList).run Tryf.prog w = .ok r w := by simp [Instr.findKey, h9, hf]
  have hc := fun em => run_ck em k w
  cases r with
  | none => simp [Instr.lookup, h34, hg, hc, hk, hz]
  | some p => simp [Instr.lookup, h34, hg, hc, hk]

/-- An insert at a string key that is not there yet. -/
theorem run_insert_str (b : Nat) (es : Array MapEntry) (cl : Nat) (k : ByteArray) (v : Value) (w : World) (hb : w.heap[b]? = some (.map es cl)) (hf : Instr.findNow .string (.string k) es.toList 0 = some none) :
    (Instr.mapUpdate 34 (.map (some b)) (.string k) v).run Tryf.prog w = .ok () { w with heap := w.heap.setIfInBounds b (.map (es.push { key := .string k, val := v, born := cl }) (cl + 1)) } := by
  have h34 := run_underlying (w := w) Tryf.underlying34
  have h9 := run_underlying (w := w) Tryf.underlying9
  have hlt := (Array.getElem?_eq_some_iff.1 hb).1
  have hg : (getObj b).run Tryf.prog w = .ok (.map es cl) w := by simp [getObj, Sem.run, hb]
  have hs : ∀ o, (setObj b o).run Tryf.prog w = .ok () { w with heap := w.heap.setIfInBounds b o } := by intro o; simp only [setObj, Sem.run, hb]
  have hk : (Instr.findKey 9 (.string k) es.toList).run Tryf.prog w = .ok none w := by simp [Instr.findKey, h9, hf]
  have hc := fun em => run_ck em k w
  simp [Instr.mapUpdate, h34, hg, hc, hk, hs]

end Go.Proofs.Qxb6608755aFmt
