/- Closed facts on the model's entries for internal/reflectlite, at this seat's types: 26 error, 48 *problem, 52 *wrapped, 55 *input, 49 mark, 59 **problem, 60 **input, 83 reflectlite's rtype; 4 package-level variables. After the guide's worked example on errors.As at a concrete target. -/
import Derived.Test.YtllhidkadhoipaaDoorFH1
namespace Go.Proofs.YtllhidkadhoipaaDoor.Ab.Fh
open Go Go.RowKit Go.Proofs Go.Extern.Stop Go.Stop Go.Extern
set_option maxRecDepth 100000
set_option linter.unusedVariables false
set_option linter.unusedSimpArgs false

/-- The handle of a type. -/
abbrev hd (t : Nat) : Value := .pointer (some ⟨4, t, none⟩)
abbrev rt (t : Nat) : Value := .iface 83 (.agg #[hd t])

theorem valueOf59 (t : Addr) (w : World) : (ReflectliteValue.unpack (.iface 59 (.pointer (some t)))).run Tryd.prog w = .ok (.agg #[hd 59, .pointer (some ⟨w.heap.size, 0, none⟩), .int .u64 150]) (w.alloc (.cells #[.pointer (some t)] 59)) := by kernel_rfl
theorem valueOf60 (t : Addr) (w : World) : (ReflectliteValue.unpack (.iface 60 (.pointer (some t)))).run Tryd.prog w = .ok (.agg #[hd 60, .pointer (some ⟨w.heap.size, 0, none⟩), .int .u64 150]) (w.alloc (.cells #[.pointer (some t)] 60)) := by kernel_rfl
theorem valueOf48 (t : Addr) (w : World) : (ReflectliteValue.unpack (.iface 48 (.pointer (some t)))).run Tryd.prog w = .ok (.agg #[hd 48, .pointer (some ⟨w.heap.size, 0, none⟩), .int .u64 150]) (w.alloc (.cells #[.pointer (some t)] 48)) := by kernel_rfl
theorem valueOf55 (t : Addr) (w : World) : (ReflectliteValue.unpack (.iface 55 (.pointer (some t)))).run Tryd.prog w = .ok (.agg #[hd 55, .pointer (some ⟨w.heap.size, 0, none⟩), .int .u64 150]) (w.alloc (.cells #[.pointer (some t)] 55)) := by kernel_rfl
theorem type59 (a : Addr) (w : World) : (ReflectliteValue.methodAny (ReflectliteValue.valueError "reflectlite.Value.Type" 0) (fun t _ _ _ => ReflectliteType.toType t) #[.agg #[hd 59, .pointer (some a), .int .u64 150]]).run Tryd.prog w = .ok (rt 59) w := by kernel_rfl
theorem type60 (a : Addr) (w : World) : (ReflectliteValue.methodAny (ReflectliteValue.valueError "reflectlite.Value.Type" 0) (fun t _ _ _ => ReflectliteType.toType t) #[.agg #[hd 60, .pointer (some a), .int .u64 150]]).run Tryd.prog w = .ok (rt 60) w := by kernel_rfl
theorem methodKind (h : Value) (w : World) : (Go.method 246 83 (.agg #[h]) "Kind").run Tryd.prog w = .ok (52, h) w := by kernel_rfl
theorem methodElem (h : Value) (w : World) : (Go.method 246 83 (.agg #[h]) "Elem").run Tryd.prog w = .ok (69, .agg #[h]) w := by kernel_rfl
theorem methodImplements (h : Value) (w : World) : (Go.method 246 83 (.agg #[h]) "Implements").run Tryd.prog w = .ok (70, .agg #[h]) w := by kernel_rfl
theorem methodAssignableTo (h : Value) (w : World) : (Go.method 246 83 (.agg #[h]) "AssignableTo").run Tryd.prog w = .ok (67, .agg #[h]) w := by kernel_rfl
theorem methodComparable (h : Value) (w : World) : (Go.method 246 83 (.agg #[h]) "Comparable").run Tryd.prog w = .ok (68, .agg #[h]) w := by kernel_rfl
theorem kind59 (w : World) : ((ReflectliteType.abiMethod fun t => (fun a : Nat => Value.int IntKind.u8 (a : Int)) <$> Rtype.kind t) #[hd 59]).run Tryd.prog w = .ok (.int .u8 22) w := by kernel_rfl
theorem kind60 (w : World) : ((ReflectliteType.abiMethod fun t => (fun a : Nat => Value.int IntKind.u8 (a : Int)) <$> Rtype.kind t) #[hd 60]).run Tryd.prog w = .ok (.int .u8 22) w := by kernel_rfl
theorem kind48 (w : World) : ((ReflectliteType.abiMethod fun t => (fun a : Nat => Value.int IntKind.u8 (a : Int)) <$> Rtype.kind t) #[hd 48]).run Tryd.prog w = .ok (.int .u8 22) w := by kernel_rfl
theorem kind55 (w : World) : ((ReflectliteType.abiMethod fun t => (fun a : Nat => Value.int IntKind.u8 (a : Int)) <$> Rtype.kind t) #[hd 55]).run Tryd.prog w = .ok (.int .u8 22) w := by kernel_rfl
theorem elem59 (w : World) : (ReflectliteType.method ReflectliteType.elem #[.agg #[hd 59]]).run Tryd.prog w = .ok (rt 48) w := by kernel_rfl
theorem elem60 (w : World) : (ReflectliteType.method ReflectliteType.elem #[.agg #[hd 60]]).run Tryd.prog w = .ok (rt 55) w := by kernel_rfl
theorem implements48 (w : World) : (ReflectliteType.relation "Implements" ReflectliteType.implements_ #[.agg #[hd 48], rt 26]).run Tryd.prog w = .ok (.bool true) w := by kernel_rfl
theorem implements55 (w : World) : (ReflectliteType.relation "Implements" ReflectliteType.implements_ #[.agg #[hd 55], rt 26]).run Tryd.prog w = .ok (.bool true) w := by kernel_rfl
theorem typeOf48 (v : Value) (w : World) : (ReflectliteType.typeOf #[.iface 48 v]).run Tryd.prog w = .ok (rt 48) w := by kernel_rfl
theorem typeOf49 (v : Value) (w : World) : (ReflectliteType.typeOf #[.iface 49 v]).run Tryd.prog w = .ok (rt 49) w := by kernel_rfl
theorem typeOf52 (v : Value) (w : World) : (ReflectliteType.typeOf #[.iface 52 v]).run Tryd.prog w = .ok (rt 52) w := by kernel_rfl
theorem typeOf55 (v : Value) (w : World) : (ReflectliteType.typeOf #[.iface 55 v]).run Tryd.prog w = .ok (rt 55) w := by kernel_rfl
theorem as4848 (w : World) : (ReflectliteType.relation "AssignableTo" ReflectliteType.assignableTo #[.agg #[hd 48], rt 48]).run Tryd.prog w = .ok (.bool true) w := by kernel_rfl
theorem as4948 (w : World) : (ReflectliteType.relation "AssignableTo" ReflectliteType.assignableTo #[.agg #[hd 49], rt 48]).run Tryd.prog w = .ok (.bool false) w := by kernel_rfl
theorem as5248 (w : World) : (ReflectliteType.relation "AssignableTo" ReflectliteType.assignableTo #[.agg #[hd 52], rt 48]).run Tryd.prog w = .ok (.bool false) w := by kernel_rfl
theorem as5548 (w : World) : (ReflectliteType.relation "AssignableTo" ReflectliteType.assignableTo #[.agg #[hd 55], rt 48]).run Tryd.prog w = .ok (.bool false) w := by kernel_rfl
theorem as4855 (w : World) : (ReflectliteType.relation "AssignableTo" ReflectliteType.assignableTo #[.agg #[hd 48], rt 55]).run Tryd.prog w = .ok (.bool false) w := by kernel_rfl
theorem as4955 (w : World) : (ReflectliteType.relation "AssignableTo" ReflectliteType.assignableTo #[.agg #[hd 49], rt 55]).run Tryd.prog w = .ok (.bool false) w := by kernel_rfl
theorem as5255 (w : World) : (ReflectliteType.relation "AssignableTo" ReflectliteType.assignableTo #[.agg #[hd 52], rt 55]).run Tryd.prog w = .ok (.bool false) w := by kernel_rfl
theorem as5555 (w : World) : (ReflectliteType.relation "AssignableTo" ReflectliteType.assignableTo #[.agg #[hd 55], rt 55]).run Tryd.prog w = .ok (.bool true) w := by kernel_rfl
abbrev compF : Array Value → Sem Value := ReflectliteType.method fun t => do Rtype.noPackHeld "Comparable" t; pure (.bool (← typeInfo t).comparable)
theorem comparable49 (w : World) : (compF #[.agg #[hd 49]]).run Tryd.prog w = .ok (.bool true) w := by kernel_rfl

/-! ### The entries that read or write memory -/
theorem rlm (z : Sem Value) (f : TypeId → Addr → Nat → Nat → Sem Value) (v : Value) :
    ReflectliteValue.method z f #[v] = (do match ← ReflectliteValue.parts v with | none => z | some (t, a, fl) => f t a fl (fl % 32)) := rfl
theorem parts59 (a : Addr) (w : World) : (ReflectliteValue.parts (.agg #[hd 59, .pointer (some a), .int .u64 150])).run Tryd.prog w = .ok (some (59, a, 150)) w := by kernel_rfl
theorem parts60 (a : Addr) (w : World) : (ReflectliteValue.parts (.agg #[hd 60, .pointer (some a), .int .u64 150])).run Tryd.prog w = .ok (some (60, a, 150)) w := by kernel_rfl
theorem isNil59 (a p : Addr) (W : World) (ha : W.cell? a = some (.pointer (some p))) :
    (ReflectliteValue.method (ReflectliteValue.valueError "reflectlite.Value.IsNil" 0) ReflectliteValue.isNil #[.agg #[hd 59, .pointer (some a), .int .u64 150]]).run Tryd.prog W = .ok (.bool false) W := by
  rw [rlm]
  simp only [Sem.run_bind, parts59, Result.andThen]
  simp [ReflectliteValue.isNil, loadVar, isAgg, underlying, Tryd.underlying59, ha, Result.andThen]
theorem isNil60 (a p : Addr) (W : World) (ha : W.cell? a = some (.pointer (some p))) :
    (ReflectliteValue.method (ReflectliteValue.valueError "reflectlite.Value.IsNil" 0) ReflectliteValue.isNil #[.agg #[hd 60, .pointer (some a), .int .u64 150]]).run Tryd.prog W = .ok (.bool false) W := by
  rw [rlm]
  simp only [Sem.run_bind, parts60, Result.andThen]
  simp [ReflectliteValue.isNil, loadVar, isAgg, underlying, Tryd.underlying60, ha, Result.andThen]
theorem elemOf59 (w : World) : (Rtype.elem? 59).run Tryd.prog w = .ok (some 48) w := by kernel_rfl
theorem elemOf60 (w : World) : (Rtype.elem? 60).run Tryd.prog w = .ok (some 55) w := by kernel_rfl
theorem mk48 (p : Addr) (w : World) : (ReflectliteValue.mk 48 p ReflectliteValue.flagAddr).run Tryd.prog w = .ok (.agg #[hd 48, .pointer (some p), .int .u64 406]) w := by kernel_rfl
theorem mk55 (p : Addr) (w : World) : (ReflectliteValue.mk 55 p ReflectliteValue.flagAddr).run Tryd.prog w = .ok (.agg #[hd 55, .pointer (some p), .int .u64 406]) w := by kernel_rfl
theorem elemV59 (a p : Addr) (W : World) (ha : W.cell? a = some (.pointer (some p))) :
    (ReflectliteValue.method (ReflectliteValue.valueError "reflectlite.Value.Elem" 0) ReflectliteValue.elem #[.agg #[hd 59, .pointer (some a), .int .u64 150]]).run Tryd.prog W = .ok (.agg #[hd 48, .pointer (some p), .int .u64 406]) W := by
  rw [rlm]
  simp only [Sem.run_bind, parts59, Result.andThen]
  simp [ReflectliteValue.elem, loadVar, isAgg, underlying, Tryd.underlying59, ha, Result.andThen, elemOf59, mk48]
theorem elemV60 (a p : Addr) (W : World) (ha : W.cell? a = some (.pointer (some p))) :
    (ReflectliteValue.method (ReflectliteValue.valueError "reflectlite.Value.Elem" 0) ReflectliteValue.elem #[.agg #[hd 60, .pointer (some a), .int .u64 150]]).run Tryd.prog W = .ok (.agg #[hd 55, .pointer (some p), .int .u64 406]) W := by
  rw [rlm]
  simp only [Sem.run_bind, parts60, Result.andThen]
  simp [ReflectliteValue.elem, loadVar, isAgg, underlying, Tryd.underlying60, ha, Result.andThen, elemOf60, mk55]
theorem rls (v x : Value) : ReflectliteValue.set #[v, x] = (do
    let (some (dst, a, fl), some (src, b, _)) := (← ReflectliteValue.parts v, ← ReflectliteValue.parts x)
      | unsupported (.noEntry "extern/(internal/reflectlite.Value).Set.zeroValue")
    if fl / ReflectliteValue.flagAddr % 2 == 0 then unsupported (.noEntry "extern/(internal/reflectlite.Value).Set.unaddressable")
    let val ← loadVar src b
    if ← Rtype.directlyAssignable dst src then storeVar dst a val
    else if ← Rtype.implements dst src then
      if (← Rtype.kind src) == 20 then
        match val with
        | .nilIface => unsupported (.noEntry "extern/reflectlite: a nil value of one interface type handed on as a value of another")
        | _ => storeVar dst a val
      else storeVar dst a (.iface src val)
    else panicString ("reflectlite.Set: value of type " ++ (← Rtype.spelt src) ++ " is not assignable to type " ++ (← Rtype.spelt dst))
    pure (.tuple #[])) := rfl
theorem parts48a (a : Addr) (w : World) : (ReflectliteValue.parts (.agg #[hd 48, .pointer (some a), .int .u64 406])).run Tryd.prog w = .ok (some (48, a, 406)) w := by kernel_rfl
theorem parts48 (a : Addr) (w : World) : (ReflectliteValue.parts (.agg #[hd 48, .pointer (some a), .int .u64 150])).run Tryd.prog w = .ok (some (48, a, 150)) w := by kernel_rfl
theorem parts55a (a : Addr) (w : World) : (ReflectliteValue.parts (.agg #[hd 55, .pointer (some a), .int .u64 406])).run Tryd.prog w = .ok (some (55, a, 406)) w := by kernel_rfl
theorem parts55 (a : Addr) (w : World) : (ReflectliteValue.parts (.agg #[hd 55, .pointer (some a), .int .u64 150])).run Tryd.prog w = .ok (some (55, a, 150)) w := by kernel_rfl
theorem direct48 (w : World) : (Rtype.directlyAssignable 48 48).run Tryd.prog w = .ok true w := by kernel_rfl
theorem direct55 (w : World) : (Rtype.directlyAssignable 55 55).run Tryd.prog w = .ok true w := by kernel_rfl
theorem set48 (ta b e : Addr) (old : Value) (W : World) (hb : W.cell? b = some (.pointer (some e))) (ht : W.cell? ta = some old) (hf : W.frozen? ta = false) :
    (ReflectliteValue.set #[.agg #[hd 48, .pointer (some ta), .int .u64 406], .agg #[hd 48, .pointer (some b), .int .u64 150]]).run Tryd.prog W = .ok (.tuple #[]) (W.setCell ta (.pointer (some e))) := by
  rw [rls]
  simp only [Sem.run_bind, parts48a, parts48, Result.andThen]
  simp [ReflectliteValue.flagAddr, loadVar, isAgg, underlying, Tryd.underlying48, hb, Result.andThen, direct48, storeVar, Value.cells, storeCells, Addr.add]
  rw [run_store Tryd.prog W ta _ _ (by rfl)]
  simp [ht, hf]
theorem set55 (ta b e : Addr) (old : Value) (W : World) (hb : W.cell? b = some (.pointer (some e))) (ht : W.cell? ta = some old) (hf : W.frozen? ta = false) :
    (ReflectliteValue.set #[.agg #[hd 55, .pointer (some ta), .int .u64 406], .agg #[hd 55, .pointer (some b), .int .u64 150]]).run Tryd.prog W = .ok (.tuple #[]) (W.setCell ta (.pointer (some e))) := by
  rw [rls]
  simp only [Sem.run_bind, parts55a, parts55, Result.andThen]
  simp [ReflectliteValue.flagAddr, loadVar, isAgg, underlying, Tryd.underlying55, hb, Result.andThen, direct55, storeVar, Value.cells, storeCells, Addr.add]
  rw [run_store Tryd.prog W ta _ _ (by rfl)]
  simp [ht, hf]

/-! ### Assertions to interface types: 87 As, 90 Unwrap() error, 92 Unwrap() []error, 95 Is -/
theorem noAs48 (v : Value) (x : TypeId) (w : World) : (Instr.typeAssert (.iface 48 v) x 87 true).run Tryd.prog w = .ok (.tuple #[.nilIface, .bool false]) w := run_typeAssert_lacksB Tryd.underlying87 (by kernel_rfl) (by kernel_rfl) v x w
theorem noAs49 (v : Value) (x : TypeId) (w : World) : (Instr.typeAssert (.iface 49 v) x 87 true).run Tryd.prog w = .ok (.tuple #[.nilIface, .bool false]) w := run_typeAssert_lacksB Tryd.underlying87 (by kernel_rfl) (by kernel_rfl) v x w
theorem noAs52 (v : Value) (x : TypeId) (w : World) : (Instr.typeAssert (.iface 52 v) x 87 true).run Tryd.prog w = .ok (.tuple #[.nilIface, .bool false]) w := run_typeAssert_lacksB Tryd.underlying87 (by kernel_rfl) (by kernel_rfl) v x w
theorem noAs55 (v : Value) (x : TypeId) (w : World) : (Instr.typeAssert (.iface 55 v) x 87 true).run Tryd.prog w = .ok (.tuple #[.nilIface, .bool false]) w := run_typeAssert_lacksB Tryd.underlying87 (by kernel_rfl) (by kernel_rfl) v x w
theorem un48 (v : Value) (x : TypeId) (w : World) : (Instr.typeAssert (.iface 48 v) x 90 true).run Tryd.prog w = .ok (.tuple #[.iface 48 v, .bool true]) w := run_typeAssert_hasB Tryd.underlying90 (by kernel_rfl) v x w
theorem un52 (v : Value) (x : TypeId) (w : World) : (Instr.typeAssert (.iface 52 v) x 90 true).run Tryd.prog w = .ok (.tuple #[.iface 52 v, .bool true]) w := run_typeAssert_hasB Tryd.underlying90 (by kernel_rfl) v x w
theorem un55 (v : Value) (x : TypeId) (w : World) : (Instr.typeAssert (.iface 55 v) x 90 true).run Tryd.prog w = .ok (.tuple #[.iface 55 v, .bool true]) w := run_typeAssert_hasB Tryd.underlying90 (by kernel_rfl) v x w
theorem noUn49 (v : Value) (x : TypeId) (w : World) : (Instr.typeAssert (.iface 49 v) x 90 true).run Tryd.prog w = .ok (.tuple #[.nilIface, .bool false]) w := run_typeAssert_lacksB Tryd.underlying90 (by kernel_rfl) (by kernel_rfl) v x w
theorem noUns49 (v : Value) (x : TypeId) (w : World) : (Instr.typeAssert (.iface 49 v) x 92 true).run Tryd.prog w = .ok (.tuple #[.nilIface, .bool false]) w := run_typeAssert_lacksB Tryd.underlying92 (by kernel_rfl) (by kernel_rfl) v x w
theorem noIs48 (v : Value) (x : TypeId) (w : World) : (Instr.typeAssert (.iface 48 v) x 95 true).run Tryd.prog w = .ok (.tuple #[.nilIface, .bool false]) w := run_typeAssert_lacksB Tryd.underlying95 (by kernel_rfl) (by kernel_rfl) v x w
theorem noIs49 (v : Value) (x : TypeId) (w : World) : (Instr.typeAssert (.iface 49 v) x 95 true).run Tryd.prog w = .ok (.tuple #[.nilIface, .bool false]) w := run_typeAssert_lacksB Tryd.underlying95 (by kernel_rfl) (by kernel_rfl) v x w

/-! ### The methods of the errors -/
theorem unwrap48 (a : Addr) (w : World) : (Go.method 246 48 (.pointer (some a)) "Unwrap").run Tryd.prog w = .ok (56, .pointer (some a)) w := by kernel_rfl
theorem unwrap52 (a : Addr) (w : World) : (Go.method 246 52 (.pointer (some a)) "Unwrap").run Tryd.prog w = .ok (60, .pointer (some a)) w := by kernel_rfl
theorem unwrap55 (a : Addr) (w : World) : (Go.method 246 55 (.pointer (some a)) "Unwrap").run Tryd.prog w = .ok (62, .pointer (some a)) w := by kernel_rfl
theorem error48 (a : Addr) (w : World) : (Go.method 246 48 (.pointer (some a)) "Error").run Tryd.prog w = .ok (55, .pointer (some a)) w := by kernel_rfl
theorem error52 (a : Addr) (w : World) : (Go.method 246 52 (.pointer (some a)) "Error").run Tryd.prog w = .ok (59, .pointer (some a)) w := by kernel_rfl
theorem error55 (a : Addr) (w : World) : (Go.method 246 55 (.pointer (some a)) "Error").run Tryd.prog w = .ok (61, .pointer (some a)) w := by kernel_rfl

end Go.Proofs.YtllhidkadhoipaaDoor.Ab.Fh
