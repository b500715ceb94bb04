/-
  The closed facts on the entries for reflectlite at this program's types (27: the pointer to a PathError; 65: a pointer to such a variable; 26: error; 97: rtype; 16: how many package-level variables there are), and errors.as and errors.As by their contracts at the target of cannotRead.
-/
import Derived.Test.YbulkefveFmtProg
import Derived.WalkKit
import Derived.LaidEql
import Derived.Stop.Asserts
import Derived.RowKitTokens
namespace Go.Proofs.YbulkefveFmt
open Go.RowKit Go.Extern.Stop Go.Stop Go.Extern

theorem Ybaf.valueOf65 (t : Addr) (w : World) : (ReflectliteValue.unpack (.iface 65 (.pointer (some t)))).run Ybaf.prog w
    = .ok (.agg #[.pointer (some ⟨16, 65, none⟩), .pointer (some ⟨w.heap.size, 0, none⟩), .int .u64 150]) (w.alloc (.cells #[.pointer (some t)] 65)) := by kernel_rfl
theorem Ybaf.type65 (a : Addr) (w : World) : (ReflectliteValue.methodAny (ReflectliteValue.valueError "reflectlite.Value.Type" 0) (fun t _ _ _ => ReflectliteType.toType t) #[.agg #[.pointer (some ⟨16, 65, none⟩), .pointer (some a), .int .u64 150]]).run Ybaf.prog w
    = .ok (.iface 97 (.agg #[.pointer (some ⟨16, 65, none⟩)])) w := by kernel_rfl
theorem Ybaf.methodKind (h : Value) (w : World) : (Go.method 295 97 (.agg #[h]) "Kind").run Ybaf.prog w = .ok (86, h) w := by kernel_rfl
theorem Ybaf.kind65 (w : World) : ((ReflectliteType.abiMethod fun t => (fun a : Nat => Value.int IntKind.u8 (a : Int)) <$> Rtype.kind t) #[.pointer (some ⟨16, 65, none⟩)]).run Ybaf.prog w = .ok (.int .u8 22) w := by kernel_rfl
theorem Ybaf.kind27 (w : World) : ((ReflectliteType.abiMethod fun t => (fun a : Nat => Value.int IntKind.u8 (a : Int)) <$> Rtype.kind t) #[.pointer (some ⟨16, 27, none⟩)]).run Ybaf.prog w = .ok (.int .u8 22) w := by kernel_rfl

theorem rlm (z : Sem Value) (f : TypeId → Addr → Nat → Nat → Sem Value) (v : Value) :
    ReflectliteValue.method z f #[v] = (do match ← ReflectliteValue.parts v with | none => z | some (t, a, fl) => f t a fl (fl % 32)) := rfl
theorem Ybaf.parts65 (a : Addr) (w : World) : (ReflectliteValue.parts (.agg #[.pointer (some ⟨16, 65, none⟩), .pointer (some a), .int .u64 150])).run Ybaf.prog w = .ok (some (65, a, 150)) w := by kernel_rfl
theorem Ybaf.isNil65 (a p : Addr) (W : World) (ha : W.cell? a = some (.pointer (some p))) :
    (ReflectliteValue.method (ReflectliteValue.valueError "reflectlite.Value.IsNil" 0) ReflectliteValue.isNil #[.agg #[.pointer (some ⟨16, 65, none⟩), .pointer (some a), .int .u64 150]]).run Ybaf.prog W = .ok (.bool false) W := by
  rw [rlm]
  simp only [Sem.run_bind, Ybaf.parts65, Result.andThen]
  simp [ReflectliteValue.isNil, loadVar, isAgg, underlying, Ybaf.underlying65, ha, Result.andThen]

theorem Ybaf.methodElem (h : Value) (w : World) : (Go.method 295 97 (.agg #[h]) "Elem").run Ybaf.prog w = .ok (104, .agg #[h]) w := by kernel_rfl
theorem Ybaf.methodImplements (h : Value) (w : World) : (Go.method 295 97 (.agg #[h]) "Implements").run Ybaf.prog w = .ok (105, .agg #[h]) w := by kernel_rfl
theorem Ybaf.methodAssignableTo (h : Value) (w : World) : (Go.method 295 97 (.agg #[h]) "AssignableTo").run Ybaf.prog w = .ok (102, .agg #[h]) w := by kernel_rfl
theorem Ybaf.elem65 (w : World) : (ReflectliteType.method ReflectliteType.elem #[.agg #[.pointer (some ⟨16, 65, none⟩)]]).run Ybaf.prog w = .ok (.iface 97 (.agg #[.pointer (some ⟨16, 27, none⟩)])) w := by kernel_rfl
theorem Ybaf.implements27 (w : World) : (ReflectliteType.relation "Implements" ReflectliteType.implements_ #[.agg #[.pointer (some ⟨16, 27, none⟩)], .iface 97 (.agg #[.pointer (some ⟨16, 26, none⟩)])]).run Ybaf.prog w = .ok (.bool true) w := by kernel_rfl
theorem Ybaf.typeOf27 (v : Value) (w : World) : (ReflectliteType.typeOf #[.iface 27 v]).run Ybaf.prog w = .ok (.iface 97 (.agg #[.pointer (some ⟨16, 27, none⟩)])) w := by kernel_rfl
theorem Ybaf.typeOf22 (v : Value) (w : World) : (ReflectliteType.typeOf #[.iface 22 v]).run Ybaf.prog w = .ok (.iface 97 (.agg #[.pointer (some ⟨16, 22, none⟩)])) w := by kernel_rfl
theorem Ybaf.typeOf30 (v : Value) (w : World) : (ReflectliteType.typeOf #[.iface 30 v]).run Ybaf.prog w = .ok (.iface 97 (.agg #[.pointer (some ⟨16, 30, none⟩)])) w := by kernel_rfl
theorem Ybaf.assignable27 (w : World) : (ReflectliteType.relation "AssignableTo" ReflectliteType.assignableTo #[.agg #[.pointer (some ⟨16, 27, none⟩)], .iface 97 (.agg #[.pointer (some ⟨16, 27, none⟩)])]).run Ybaf.prog w = .ok (.bool true) w := by kernel_rfl
theorem Ybaf.assignable22 (w : World) : (ReflectliteType.relation "AssignableTo" ReflectliteType.assignableTo #[.agg #[.pointer (some ⟨16, 22, none⟩)], .iface 97 (.agg #[.pointer (some ⟨16, 27, none⟩)])]).run Ybaf.prog w = .ok (.bool false) w := by kernel_rfl
theorem Ybaf.assignable30 (w : World) : (ReflectliteType.relation "AssignableTo" ReflectliteType.assignableTo #[.agg #[.pointer (some ⟨16, 30, none⟩)], .iface 97 (.agg #[.pointer (some ⟨16, 27, none⟩)])]).run Ybaf.prog w = .ok (.bool false) w := by kernel_rfl
theorem Ybaf.valueOf27 (e : Addr) (w : World) : (ReflectliteValue.unpack (.iface 27 (.pointer (some e)))).run Ybaf.prog w
    = .ok (.agg #[.pointer (some ⟨16, 27, none⟩), .pointer (some ⟨w.heap.size, 0, none⟩), .int .u64 150]) (w.alloc (.cells #[.pointer (some e)] 27)) := by kernel_rfl

theorem Ybaf.elemOf65 (w : World) : (Rtype.elem? 65).run Ybaf.prog w = .ok (some 27) w := by kernel_rfl
theorem Ybaf.mk27 (p : Addr) (w : World) : (ReflectliteValue.mk 27 p ReflectliteValue.flagAddr).run Ybaf.prog w = .ok (.agg #[.pointer (some ⟨16, 27, none⟩), .pointer (some p), .int .u64 406]) w := by kernel_rfl
theorem Ybaf.elemV65 (a p : Addr) (W : World) (ha : W.cell? a = some (.pointer (some p))) :
    (ReflectliteValue.method (ReflectliteValue.valueError "reflectlite.Value.Elem" 0) ReflectliteValue.elem #[.agg #[.pointer (some ⟨16, 65, none⟩), .pointer (some a), .int .u64 150]]).run Ybaf.prog W
      = .ok (.agg #[.pointer (some ⟨16, 27, none⟩), .pointer (some p), .int .u64 406]) W := by
  rw [rlm]
  simp only [Sem.run_bind, Ybaf.parts65, Result.andThen]
  simp [ReflectliteValue.elem, loadVar, isAgg, underlying, Ybaf.underlying65, ha, Result.andThen, Ybaf.elemOf65, Ybaf.mk27]
theorem rls (v x : Value) : ∃ (E1 : Sem Value) (E2 E3 : Sem Unit) (E4 : String → String → Sem Unit), ReflectliteValue.set #[v, x] = (do
    let (some (dst, a, fl), some (src, b, _)) := (← ReflectliteValue.parts v, ← ReflectliteValue.parts x)
      | E1
    if fl / ReflectliteValue.flagAddr % 2 == 0 then E2
    let val ← loadVar src b
    if ← Rtype.directlyAssignable dst src then storeVar dst a val
    else if ← Rtype.implements dst src then
      if (← Rtype.kind src) == 20 then
        match val with
        | .nilIface => E3
        | _ => storeVar dst a val
      else storeVar dst a (.iface src val)
    else E4 (← Rtype.spelt src) (← Rtype.spelt dst)
    pure (.tuple #[])) := ⟨_, _, _, fun a b => panicString (_ ++ a ++ _ ++ b), rfl⟩
theorem Ybaf.parts27a (a : Addr) (w : World) : (ReflectliteValue.parts (.agg #[.pointer (some ⟨16, 27, none⟩), .pointer (some a), .int .u64 406])).run Ybaf.prog w = .ok (some (27, a, 406)) w := by kernel_rfl
theorem Ybaf.parts27 (a : Addr) (w : World) : (ReflectliteValue.parts (.agg #[.pointer (some ⟨16, 27, none⟩), .pointer (some a), .int .u64 150])).run Ybaf.prog w = .ok (some (27, a, 150)) w := by kernel_rfl
theorem Ybaf.direct27 (w : World) : (Rtype.directlyAssignable 27 27).run Ybaf.prog w = .ok true w := by kernel_rfl
theorem Ybaf.size27 (w : World) : (sizeOf 27).run Ybaf.prog w = .ok 1 w := by kernel_rfl
theorem Ybaf.set27 (ta b e : Addr) (old : Value) (W : World) (hb : W.cell? b = some (.pointer (some e))) (ht : W.cell? ta = some old) (hf : W.frozen? ta = false) :
    (ReflectliteValue.set #[.agg #[.pointer (some ⟨16, 27, none⟩), .pointer (some ta), .int .u64 406], .agg #[.pointer (some ⟨16, 27, none⟩), .pointer (some b), .int .u64 150]]).run Ybaf.prog W
      = .ok (.tuple #[]) (W.setCell ta (.pointer (some e))) := by
  obtain ⟨E1, E2, E3, E4, h⟩ := rls (.agg #[.pointer (some ⟨16, 27, none⟩), .pointer (some ta), .int .u64 406]) (.agg #[.pointer (some ⟨16, 27, none⟩), .pointer (some b), .int .u64 150])
  rw [h]
  simp only [Sem.run_bind, Ybaf.parts27a, Ybaf.parts27, Result.andThen]
  simp [ReflectliteValue.flagAddr, loadVar, isAgg, underlying, Ybaf.underlying27, hb, Result.andThen, Ybaf.direct27, storeVar, Value.cells, storeCells, Addr.add]
  rw [run_store Ybaf.prog W ta _ _ (by rfl)]
  simp [ht, hf]
end Go.Proofs.YbulkefveFmt
