/-
  errors.As at a CorruptInputError (turned from the kit's worked example ToyasAs).
-/
import Derived.Test.YtfonpcfcelahdaaDoorMem
import Derived.WalkKit
import Derived.LaidEql
import Derived.Stop.Asserts
import Derived.RowKitTokens
namespace Go.Proofs.YtfonpcfcelahdaaDoor
open Go.RowKit Go.Extern.Stop Go.Stop Go.Extern

theorem as_valueOf67 (t : Addr) (w : World) : (ReflectliteValue.unpack (.iface 67 (.pointer (some t)))).run Tryd.prog w
    = .ok (.agg #[.pointer (some ⟨3, 67, none⟩), .pointer (some ⟨w.heap.size, 0, none⟩), .int .u64 150]) (w.alloc (.cells #[.pointer (some t)] 67)) := by kernel_rfl
theorem as_type67 (a : Addr) (w : World) : (ReflectliteValue.methodAny (ReflectliteValue.valueError "reflectlite.Value.Type" 0) (fun t _ _ _ => ReflectliteType.toType t) #[.agg #[.pointer (some ⟨3, 67, none⟩), .pointer (some a), .int .u64 150]]).run Tryd.prog w
    = .ok (.iface 92 (.agg #[.pointer (some ⟨3, 67, none⟩)])) w := by kernel_rfl
theorem as_methodKind (h : Value) (w : World) : (Go.method 242 92 (.agg #[h]) "Kind").run Tryd.prog w = .ok (44, h) w := by kernel_rfl
theorem as_kind67 (w : World) : ((ReflectliteType.abiMethod fun t => (fun a : Nat => Value.int IntKind.u8 (a : Int)) <$> Rtype.kind t) #[.pointer (some ⟨3, 67, none⟩)]).run Tryd.prog w = .ok (.int .u8 22) w := by kernel_rfl
theorem as_kind65 (w : World) : ((ReflectliteType.abiMethod fun t => (fun a : Nat => Value.int IntKind.u8 (a : Int)) <$> Rtype.kind t) #[.pointer (some ⟨3, 65, none⟩)]).run Tryd.prog w = .ok (.int .u8 6) w := by kernel_rfl
theorem as_rlm (z : Sem Value) (f : TypeId → Addr → Nat → Nat → Sem Value) (v : Value) :
    ReflectliteValue.method z f #[v] = (do match ← ReflectliteValue.parts v with | none => z | some (t, a, fl) => f t a fl (fl % 32)) := rfl
theorem as_parts67 (a : Addr) (w : World) : (ReflectliteValue.parts (.agg #[.pointer (some ⟨3, 67, none⟩), .pointer (some a), .int .u64 150])).run Tryd.prog w = .ok (some (67, a, 150)) w := by kernel_rfl
theorem as_isNil67 (a p : Addr) (W : World) (ha : W.cell? a = some (.pointer (some p))) :
    (ReflectliteValue.method (ReflectliteValue.valueError "reflectlite.Value.IsNil" 0) ReflectliteValue.isNil #[.agg #[.pointer (some ⟨3, 67, none⟩), .pointer (some a), .int .u64 150]]).run Tryd.prog W = .ok (.bool false) W := by
  rw [as_rlm]
  simp only [Sem.run_bind, as_parts67, Result.andThen]
  simp [ReflectliteValue.isNil, loadVar, isAgg, underlying, Tryd.underlying67, ha, Result.andThen]
theorem as_methodElem (h : Value) (w : World) : (Go.method 242 92 (.agg #[h]) "Elem").run Tryd.prog w = .ok (69, .agg #[h]) w := by kernel_rfl
theorem as_methodImplements (h : Value) (w : World) : (Go.method 242 92 (.agg #[h]) "Implements").run Tryd.prog w = .ok (70, .agg #[h]) w := by kernel_rfl
theorem as_methodAssignableTo (h : Value) (w : World) : (Go.method 242 92 (.agg #[h]) "AssignableTo").run Tryd.prog w = .ok (67, .agg #[h]) w := by kernel_rfl
theorem as_elem67 (w : World) : (ReflectliteType.method ReflectliteType.elem #[.agg #[.pointer (some ⟨3, 67, none⟩)]]).run Tryd.prog w = .ok (.iface 92 (.agg #[.pointer (some ⟨3, 65, none⟩)])) w := by kernel_rfl
theorem as_implements65 (w : World) : (ReflectliteType.relation "Implements" ReflectliteType.implements_ #[.agg #[.pointer (some ⟨3, 65, none⟩)], .iface 92 (.agg #[.pointer (some ⟨3, 41, none⟩)])]).run Tryd.prog w = .ok (.bool true) w := by kernel_rfl
theorem as_typeOf65 (v : Value) (w : World) : (ReflectliteType.typeOf #[.iface 65 v]).run Tryd.prog w = .ok (.iface 92 (.agg #[.pointer (some ⟨3, 65, none⟩)])) w := by kernel_rfl
theorem as_assignable65 (w : World) : (ReflectliteType.relation "AssignableTo" ReflectliteType.assignableTo #[.agg #[.pointer (some ⟨3, 65, none⟩)], .iface 92 (.agg #[.pointer (some ⟨3, 65, none⟩)])]).run Tryd.prog w = .ok (.bool true) w := by kernel_rfl
theorem as_valueOf65 (i : Int) (w : World) : (ReflectliteValue.unpack (.iface 65 (.int .i64 i))).run Tryd.prog w
    = .ok (.agg #[.pointer (some ⟨3, 65, none⟩), .pointer (some ⟨w.heap.size, 0, none⟩), .int .u64 134]) (w.alloc (.cells #[.int .i64 i] 65)) := by kernel_rfl
theorem as_elemOf67 (w : World) : (Rtype.elem? 67).run Tryd.prog w = .ok (some 65) w := by kernel_rfl
theorem as_mk65 (p : Addr) (w : World) : (ReflectliteValue.mk 65 p ReflectliteValue.flagAddr).run Tryd.prog w = .ok (.agg #[.pointer (some ⟨3, 65, none⟩), .pointer (some p), .int .u64 390]) w := by kernel_rfl
theorem as_elemV67 (a p : Addr) (W : World) (ha : W.cell? a = some (.pointer (some p))) :
    (ReflectliteValue.method (ReflectliteValue.valueError "reflectlite.Value.Elem" 0) ReflectliteValue.elem #[.agg #[.pointer (some ⟨3, 67, none⟩), .pointer (some a), .int .u64 150]]).run Tryd.prog W
      = .ok (.agg #[.pointer (some ⟨3, 65, none⟩), .pointer (some p), .int .u64 390]) W := by
  rw [as_rlm]
  simp only [Sem.run_bind, as_parts67, Result.andThen]
  simp [ReflectliteValue.elem, loadVar, isAgg, underlying, Tryd.underlying67, ha, Result.andThen, as_elemOf67, as_mk65]
theorem as_rls (v x : Value) : ReflectliteValue.set #[v, x] = (do
    let (some (dst, a, fl), some (src, b, _)) := (← ReflectliteValue.parts v, ← ReflectliteValue.parts x)
      | unsupported (.noEntry "extern/(internal/reflectlite.Value).Set.zeroValue")
    if fl / ReflectliteValue.flagAddr % 2 == 0 then unsupported (.noEntry "extern/(internal/reflectlite.Value).Set.unaddressable")
    let val ← loadVar src b
    if ← Rtype.directlyAssignable dst src then storeVar dst a val
    else if ← Rtype.implements dst src then
      if (← Rtype.kind src) == 20 then
        match val with
        | .nilIface => unsupported (.noEntry "extern/reflectlite: a nil value of one interface type handed on as a value of another")
        | _ => storeVar dst a val
      else storeVar dst a (.iface src val)
    else panicString ("reflectlite.Set: value of type " ++ (← Rtype.spelt src) ++ " is not assignable to type " ++ (← Rtype.spelt dst))
    pure (.tuple #[])) := rfl
theorem as_parts65a (a : Addr) (w : World) : (ReflectliteValue.parts (.agg #[.pointer (some ⟨3, 65, none⟩), .pointer (some a), .int .u64 390])).run Tryd.prog w = .ok (some (65, a, 390)) w := by kernel_rfl
theorem as_parts65 (a : Addr) (w : World) : (ReflectliteValue.parts (.agg #[.pointer (some ⟨3, 65, none⟩), .pointer (some a), .int .u64 134])).run Tryd.prog w = .ok (some (65, a, 134)) w := by kernel_rfl
theorem as_direct65 (w : World) : (Rtype.directlyAssignable 65 65).run Tryd.prog w = .ok true w := by kernel_rfl
theorem as_set65 (ta b : Addr) (i : Int) (old : Value) (W : World) (hb : W.cell? b = some (.int .i64 i)) (ht : W.cell? ta = some old) (hf : W.frozen? ta = false) :
    (ReflectliteValue.set #[.agg #[.pointer (some ⟨3, 65, none⟩), .pointer (some ta), .int .u64 390], .agg #[.pointer (some ⟨3, 65, none⟩), .pointer (some b), .int .u64 134]]).run Tryd.prog W
      = .ok (.tuple #[]) (W.setCell ta (.int .i64 i)) := by
  rw [as_rls]
  simp only [Sem.run_bind, as_parts65a, as_parts65, Result.andThen]
  simp [ReflectliteValue.flagAddr, loadVar, isAgg, underlying, Tryd.underlying65, hb, Result.andThen, as_direct65, storeVar, Value.cells, storeCells, Addr.add]
  rw [run_store Tryd.prog W ta _ _ (by rfl)]
  simp [ht, hf]
end Go.Proofs.YtfonpcfcelahdaaDoor
