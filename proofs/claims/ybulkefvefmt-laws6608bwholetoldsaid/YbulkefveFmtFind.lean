/-
  errors.As at the target of cannotRead, by contracts: the error itself is a PathError; it is none and unwraps to nothing; it is the law's own wrapper around the one or the other.
-/
import Derived.Test.YbulkefveFmtAs
namespace Go.Proofs.YbulkefveFmt
open Go.RowKit Go.Extern.Stop Go.Stop Go.Extern

theorem Ybaf.noAs22 (v : Value) (x : TypeId) (w : World) : (Instr.typeAssert (.iface 22 v) x 102 true).run Ybaf.prog w = .ok (.tuple #[.nilIface, .bool false]) w := run_typeAssert_lacksB Ybaf.underlying102 (by kernel_rfl) (by kernel_rfl) v x w
theorem Ybaf.noUn22 (v : Value) (x : TypeId) (w : World) : (Instr.typeAssert (.iface 22 v) x 105 true).run Ybaf.prog w = .ok (.tuple #[.nilIface, .bool false]) w := run_typeAssert_lacksB Ybaf.underlying105 (by kernel_rfl) (by kernel_rfl) v x w
theorem Ybaf.noUns22 (v : Value) (x : TypeId) (w : World) : (Instr.typeAssert (.iface 22 v) x 107 true).run Ybaf.prog w = .ok (.tuple #[.nilIface, .bool false]) w := run_typeAssert_lacksB Ybaf.underlying107 (by kernel_rfl) (by kernel_rfl) v x w
theorem Ybaf.noAs30 (v : Value) (x : TypeId) (w : World) : (Instr.typeAssert (.iface 30 v) x 102 true).run Ybaf.prog w = .ok (.tuple #[.nilIface, .bool false]) w := run_typeAssert_lacksB Ybaf.underlying102 (by kernel_rfl) (by kernel_rfl) v x w
theorem Ybaf.un30 (v : Value) (x : TypeId) (w : World) : (Instr.typeAssert (.iface 30 v) x 105 true).run Ybaf.prog w = .ok (.tuple #[.iface 30 v, .bool true]) w := run_typeAssert_hasB Ybaf.underlying105 (by kernel_rfl) v x w
theorem Ybaf.methodUnwrap30 (p : Addr) (w : World) : (Go.method 295 30 (.pointer (some p)) "Unwrap").run Ybaf.prog w = .ok (93, .pointer (some p)) w := by kernel_rfl
theorem unwrap30 (b : Nat) (x : Value) (w : World) (h1 : w.cell? ⟨b, 1, none⟩ = some x) : Calls Ybaf.prog 93 #[.pointer (some ⟨b, 0, none⟩)] w fun e w' => e = .returned x ∧ w = w' := by
  go_enter Ybaf.func93, Ybaf.ntmps93
  go_wp2
  go_ret
  exact ⟨rfl, rfl⟩

theorem lt_of_cell {w : World} {a : Addr} {v : Value} (h : w.cell? a = some v) : a.block < w.heap.size := by
  rcases Nat.lt_or_ge a.block w.heap.size with k | k
  · exact k
  · simp [World.cell?, Array.getElem?_eq_none k] at h

/-- The world behind errors.As's own copies: three blocks. -/
def w3 (w : World) (t : Addr) : World := ((w.alloc (.cells #[.pointer (some t)] 65)).alloc (.cells #[.pointer (some ⟨16, 65, none⟩), .pointer (some ⟨w.heap.size, 0, none⟩), .int .u64 150] 74)).alloc (.cells #[.pointer (some ⟨16, 65, none⟩), .pointer (some ⟨w.heap.size, 0, none⟩), .int .u64 150] 74)

set_option maxHeartbeats 4000000 in
theorem as_hit (e t : Addr) (old : Value) (w : World) (hg : w.cell? ⟨0, 0, none⟩ = some (.iface 97 (.agg #[.pointer (some ⟨16, 26, none⟩)]))) (ht0 : w.cell? t = some old) (hf0 : w.frozen? t = false) :
    Calls Ybaf.prog 11 #[.iface 27 (.pointer (some e)), .iface 65 (.pointer (some t))] w fun ev w' => ev = .returned (.bool true) ∧ w' = ((w3 w t).alloc (.cells #[.pointer (some e)] 27)).setCell t (.pointer (some e)) := by
  have h6 := @run_callFunc_extern Ybaf.prog 16 _ (fun args => ReflectliteValue.unpack (args.getD 0 (.tuple #[]))) Ybaf.func16 (by kernel_rfl) (by kernel_rfl) (by kernel_rfl) (by kernel_rfl)
  have h7 := @run_callFunc_extern Ybaf.prog 17 _ (ReflectliteValue.methodAny (ReflectliteValue.valueError "reflectlite.Value.Type" 0) (fun t _ _ _ => ReflectliteType.toType t)) Ybaf.func17 (by kernel_rfl) (by kernel_rfl) (by kernel_rfl) (by kernel_rfl)
  have h8 := @run_callFunc_extern Ybaf.prog 18 _ (ReflectliteValue.method (ReflectliteValue.valueError "reflectlite.Value.IsNil" 0) ReflectliteValue.isNil) Ybaf.func18 (by kernel_rfl) (by kernel_rfl) (by kernel_rfl) (by kernel_rfl)
  have h27 := @run_callFunc_extern Ybaf.prog 86 _ (ReflectliteType.abiMethod fun t => do pure (.int .u8 (← Rtype.kind t))) Ybaf.func86 (by kernel_rfl) (by kernel_rfl) (by kernel_rfl) (by kernel_rfl)
  have h37 := @run_callFunc_extern Ybaf.prog 104 _ (ReflectliteType.method ReflectliteType.elem) Ybaf.func104 (by kernel_rfl) (by kernel_rfl) (by kernel_rfl) (by kernel_rfl)
  have h38 := @run_callFunc_extern Ybaf.prog 105 _ (ReflectliteType.relation "Implements" ReflectliteType.implements_) Ybaf.func105 (by kernel_rfl) (by kernel_rfl) (by kernel_rfl) (by kernel_rfl)
  have h10 := @run_callFunc_extern Ybaf.prog 29 _ ReflectliteType.typeOf Ybaf.func29 (by kernel_rfl) (by kernel_rfl) (by kernel_rfl) (by kernel_rfl)
  have h35 := @run_callFunc_extern Ybaf.prog 102 _ (ReflectliteType.relation "AssignableTo" ReflectliteType.assignableTo) Ybaf.func102 (by kernel_rfl) (by kernel_rfl) (by kernel_rfl) (by kernel_rfl)
  have mA := Ybaf.methodAssignableTo
  have f6 := Ybaf.valueOf65
  have f7 := Ybaf.type65
  have mK := Ybaf.methodKind
  have mE := Ybaf.methodElem
  have mI := Ybaf.methodImplements
  have k27 := Ybaf.kind65
  have k25 := Ybaf.kind27
  have e27 := Ybaf.elem65
  have i25 := Ybaf.implements27
  have n8 := Ybaf.isNil65 ⟨w.heap.size, 0, none⟩ t ((w.alloc (.cells #[.pointer (some t)] 65)).alloc (.cells #[.pointer (some ⟨16, 65, none⟩), .pointer (some ⟨w.heap.size, 0, none⟩), .int .u64 150] 74)) (by simp)
  have hlt : 0 < w.heap.size := lt_of_cell hg
  have hg2 : ((w.alloc (.cells #[.pointer (some t)] 65)).alloc (.cells #[.pointer (some ⟨16, 65, none⟩), .pointer (some ⟨w.heap.size, 0, none⟩), .int .u64 150] 74)).cell? ⟨0, 0, none⟩ = some (.iface 97 (.agg #[.pointer (some ⟨16, 26, none⟩)])) := by
    rw [World.cell?_alloc_lt _ _ ⟨0, 0, none⟩ (by simp), World.cell?_alloc_lt _ _ ⟨0, 0, none⟩ hlt]; exact hg
  have h11 := @run_callFunc_extern Ybaf.prog 30 _ (ReflectliteValue.method (ReflectliteValue.valueError "reflectlite.Value.Elem" 0) ReflectliteValue.elem) Ybaf.func30 (by kernel_rfl) (by kernel_rfl) (by kernel_rfl) (by kernel_rfl)
  have h12 := @run_callFunc_extern Ybaf.prog 31 _ ReflectliteValue.set Ybaf.func31 (by kernel_rfl) (by kernel_rfl) (by kernel_rfl) (by kernel_rfl)
  have tO := Ybaf.typeOf27
  have a25 := Ybaf.assignable27
  have v25 := Ybaf.valueOf27
  have htl : t.block < w.heap.size := lt_of_cell ht0
  have el := Ybaf.elemV65 ⟨w.heap.size, 0, none⟩ t ((((w.alloc (.cells #[.pointer (some t)] 65)).alloc (.cells #[.pointer (some ⟨16, 65, none⟩), .pointer (some ⟨w.heap.size, 0, none⟩), .int .u64 150] 74))).alloc (.cells #[.pointer (some ⟨16, 65, none⟩), .pointer (some ⟨w.heap.size, 0, none⟩), .int .u64 150] 74)) (by rw [World.cell?_alloc_lt _ _ ⟨w.heap.size, 0, none⟩ (by simp; omega)]; simp)
  have st := Ybaf.set27 t ⟨w.heap.size + 1 + 1 + 1, 0, none⟩ e old (((((w.alloc (.cells #[.pointer (some t)] 65)).alloc (.cells #[.pointer (some ⟨16, 65, none⟩), .pointer (some ⟨w.heap.size, 0, none⟩), .int .u64 150] 74))).alloc (.cells #[.pointer (some ⟨16, 65, none⟩), .pointer (some ⟨w.heap.size, 0, none⟩), .int .u64 150] 74)).alloc (.cells #[.pointer (some e)] 27))
    (by rw [World.cell?_alloc_at _ _ _ _ (by simp)]; rfl)
    (by rw [World.cell?_alloc_lt _ _ t (by simp; omega), World.cell?_alloc_lt _ _ t (by simp; omega), World.cell?_alloc_lt _ _ t (by simp; omega), World.cell?_alloc_lt _ _ t htl]; exact ht0)
    (by rw [World.frozen?_alloc_old _ _ t (by simp; omega), World.frozen?_alloc_old _ _ t (by simp; omega), World.frozen?_alloc_old _ _ t (by simp; omega), World.frozen?_alloc_old _ _ t (Nat.ne_of_lt htl)]; exact hf0)
  go_enter Ybaf.func11, Ybaf.ntmps11
  go_wp2
  refine wp_loop_rounds 1 ?_
  rw [rounds_succ]
  go_wp2
  go_ret
  exact ⟨rfl, rfl⟩

set_option maxHeartbeats 4000000 in
theorem as_miss (e t : Addr) (w : World) (hg : w.cell? ⟨0, 0, none⟩ = some (.iface 97 (.agg #[.pointer (some ⟨16, 26, none⟩)]))) :
    Calls Ybaf.prog 11 #[.iface 22 (.pointer (some e)), .iface 65 (.pointer (some t))] w fun ev w' => ev = .returned (.bool false) ∧ w' = w3 w t := by
  have h6 := @run_callFunc_extern Ybaf.prog 16 _ (fun args => ReflectliteValue.unpack (args.getD 0 (.tuple #[]))) Ybaf.func16 (by kernel_rfl) (by kernel_rfl) (by kernel_rfl) (by kernel_rfl)
  have h7 := @run_callFunc_extern Ybaf.prog 17 _ (ReflectliteValue.methodAny (ReflectliteValue.valueError "reflectlite.Value.Type" 0) (fun t _ _ _ => ReflectliteType.toType t)) Ybaf.func17 (by kernel_rfl) (by kernel_rfl) (by kernel_rfl) (by kernel_rfl)
  have h8 := @run_callFunc_extern Ybaf.prog 18 _ (ReflectliteValue.method (ReflectliteValue.valueError "reflectlite.Value.IsNil" 0) ReflectliteValue.isNil) Ybaf.func18 (by kernel_rfl) (by kernel_rfl) (by kernel_rfl) (by kernel_rfl)
  have h27 := @run_callFunc_extern Ybaf.prog 86 _ (ReflectliteType.abiMethod fun t => do pure (.int .u8 (← Rtype.kind t))) Ybaf.func86 (by kernel_rfl) (by kernel_rfl) (by kernel_rfl) (by kernel_rfl)
  have h37 := @run_callFunc_extern Ybaf.prog 104 _ (ReflectliteType.method ReflectliteType.elem) Ybaf.func104 (by kernel_rfl) (by kernel_rfl) (by kernel_rfl) (by kernel_rfl)
  have h38 := @run_callFunc_extern Ybaf.prog 105 _ (ReflectliteType.relation "Implements" ReflectliteType.implements_) Ybaf.func105 (by kernel_rfl) (by kernel_rfl) (by kernel_rfl) (by kernel_rfl)
  have h10 := @run_callFunc_extern Ybaf.prog 29 _ ReflectliteType.typeOf Ybaf.func29 (by kernel_rfl) (by kernel_rfl) (by kernel_rfl) (by kernel_rfl)
  have h35 := @run_callFunc_extern Ybaf.prog 102 _ (ReflectliteType.relation "AssignableTo" ReflectliteType.assignableTo) Ybaf.func102 (by kernel_rfl) (by kernel_rfl) (by kernel_rfl) (by kernel_rfl)
  have mA := Ybaf.methodAssignableTo
  have f6 := Ybaf.valueOf65
  have f7 := Ybaf.type65
  have mK := Ybaf.methodKind
  have mE := Ybaf.methodElem
  have mI := Ybaf.methodImplements
  have k27 := Ybaf.kind65
  have k25 := Ybaf.kind27
  have e27 := Ybaf.elem65
  have i25 := Ybaf.implements27
  have n8 := Ybaf.isNil65 ⟨w.heap.size, 0, none⟩ t ((w.alloc (.cells #[.pointer (some t)] 65)).alloc (.cells #[.pointer (some ⟨16, 65, none⟩), .pointer (some ⟨w.heap.size, 0, none⟩), .int .u64 150] 74)) (by simp)
  have hlt : 0 < w.heap.size := lt_of_cell hg
  have hg2 : ((w.alloc (.cells #[.pointer (some t)] 65)).alloc (.cells #[.pointer (some ⟨16, 65, none⟩), .pointer (some ⟨w.heap.size, 0, none⟩), .int .u64 150] 74)).cell? ⟨0, 0, none⟩ = some (.iface 97 (.agg #[.pointer (some ⟨16, 26, none⟩)])) := by
    rw [World.cell?_alloc_lt _ _ ⟨0, 0, none⟩ (by simp), World.cell?_alloc_lt _ _ ⟨0, 0, none⟩ hlt]; exact hg
  have tO := Ybaf.typeOf22
  have a22 := Ybaf.assignable22
  have x1 := Ybaf.noAs22
  have x2 := Ybaf.noUn22
  have x3 := Ybaf.noUns22
  go_enter Ybaf.func11, Ybaf.ntmps11
  go_wp2
  refine wp_loop_rounds 1 ?_
  rw [rounds_succ]
  go_wp2
  go_ret
  exact ⟨rfl, rfl⟩

set_option maxHeartbeats 4000000 in
theorem as_wrap_hit (b : Nat) (q t : Addr) (old : Value) (w : World) (hb : w.cell? ⟨b, 1, none⟩ = some (.iface 27 (.pointer (some q)))) (hg : w.cell? ⟨0, 0, none⟩ = some (.iface 97 (.agg #[.pointer (some ⟨16, 26, none⟩)]))) (ht0 : w.cell? t = some old) (hf0 : w.frozen? t = false) :
    Calls Ybaf.prog 11 #[.iface 30 (.pointer (some ⟨b, 0, none⟩)), .iface 65 (.pointer (some t))] w fun ev w' => ev = .returned (.bool true) ∧ w' = ((w3 w t).alloc (.cells #[.pointer (some q)] 27)).setCell t (.pointer (some q)) := by
  have h6 := @run_callFunc_extern Ybaf.prog 16 _ (fun args => ReflectliteValue.unpack (args.getD 0 (.tuple #[]))) Ybaf.func16 (by kernel_rfl) (by kernel_rfl) (by kernel_rfl) (by kernel_rfl)
  have h7 := @run_callFunc_extern Ybaf.prog 17 _ (ReflectliteValue.methodAny (ReflectliteValue.valueError "reflectlite.Value.Type" 0) (fun t _ _ _ => ReflectliteType.toType t)) Ybaf.func17 (by kernel_rfl) (by kernel_rfl) (by kernel_rfl) (by kernel_rfl)
  have h8 := @run_callFunc_extern Ybaf.prog 18 _ (ReflectliteValue.method (ReflectliteValue.valueError "reflectlite.Value.IsNil" 0) ReflectliteValue.isNil) Ybaf.func18 (by kernel_rfl) (by kernel_rfl) (by kernel_rfl) (by kernel_rfl)
  have h27 := @run_callFunc_extern Ybaf.prog 86 _ (ReflectliteType.abiMethod fun t => do pure (.int .u8 (← Rtype.kind t))) Ybaf.func86 (by kernel_rfl) (by kernel_rfl) (by kernel_rfl) (by kernel_rfl)
  have h37 := @run_callFunc_extern Ybaf.prog 104 _ (ReflectliteType.method ReflectliteType.elem) Ybaf.func104 (by kernel_rfl) (by kernel_rfl) (by kernel_rfl) (by kernel_rfl)
  have h38 := @run_callFunc_extern Ybaf.prog 105 _ (ReflectliteType.relation "Implements" ReflectliteType.implements_) Ybaf.func105 (by kernel_rfl) (by kernel_rfl) (by kernel_rfl) (by kernel_rfl)
  have h10 := @run_callFunc_extern Ybaf.prog 29 _ ReflectliteType.typeOf Ybaf.func29 (by kernel_rfl) (by kernel_rfl) (by kernel_rfl) (by kernel_rfl)
  have h35 := @run_callFunc_extern Ybaf.prog 102 _ (ReflectliteType.relation "AssignableTo" ReflectliteType.assignableTo) Ybaf.func102 (by kernel_rfl) (by kernel_rfl) (by kernel_rfl) (by kernel_rfl)
  have mA := Ybaf.methodAssignableTo
  have f6 := Ybaf.valueOf65
  have f7 := Ybaf.type65
  have mK := Ybaf.methodKind
  have mE := Ybaf.methodElem
  have mI := Ybaf.methodImplements
  have k27 := Ybaf.kind65
  have k25 := Ybaf.kind27
  have e27 := Ybaf.elem65
  have i25 := Ybaf.implements27
  have n8 := Ybaf.isNil65 ⟨w.heap.size, 0, none⟩ t ((w.alloc (.cells #[.pointer (some t)] 65)).alloc (.cells #[.pointer (some ⟨16, 65, none⟩), .pointer (some ⟨w.heap.size, 0, none⟩), .int .u64 150] 74)) (by simp)
  have hlt : 0 < w.heap.size := lt_of_cell hg
  have hg2 : ((w.alloc (.cells #[.pointer (some t)] 65)).alloc (.cells #[.pointer (some ⟨16, 65, none⟩), .pointer (some ⟨w.heap.size, 0, none⟩), .int .u64 150] 74)).cell? ⟨0, 0, none⟩ = some (.iface 97 (.agg #[.pointer (some ⟨16, 26, none⟩)])) := by
    rw [World.cell?_alloc_lt _ _ ⟨0, 0, none⟩ (by simp), World.cell?_alloc_lt _ _ ⟨0, 0, none⟩ hlt]; exact hg
  have h11 := @run_callFunc_extern Ybaf.prog 30 _ (ReflectliteValue.method (ReflectliteValue.valueError "reflectlite.Value.Elem" 0) ReflectliteValue.elem) Ybaf.func30 (by kernel_rfl) (by kernel_rfl) (by kernel_rfl) (by kernel_rfl)
  have h12 := @run_callFunc_extern Ybaf.prog 31 _ ReflectliteValue.set Ybaf.func31 (by kernel_rfl) (by kernel_rfl) (by kernel_rfl) (by kernel_rfl)
  have tO := Ybaf.typeOf27
  have a25 := Ybaf.assignable27
  have v25 := Ybaf.valueOf27
  have htl : t.block < w.heap.size := lt_of_cell ht0
  have el := Ybaf.elemV65 ⟨w.heap.size, 0, none⟩ t ((((w.alloc (.cells #[.pointer (some t)] 65)).alloc (.cells #[.pointer (some ⟨16, 65, none⟩), .pointer (some ⟨w.heap.size, 0, none⟩), .int .u64 150] 74))).alloc (.cells #[.pointer (some ⟨16, 65, none⟩), .pointer (some ⟨w.heap.size, 0, none⟩), .int .u64 150] 74)) (by rw [World.cell?_alloc_lt _ _ ⟨w.heap.size, 0, none⟩ (by simp; omega)]; simp)
  have st := Ybaf.set27 t ⟨w.heap.size + 1 + 1 + 1, 0, none⟩ q old (((((w.alloc (.cells #[.pointer (some t)] 65)).alloc (.cells #[.pointer (some ⟨16, 65, none⟩), .pointer (some ⟨w.heap.size, 0, none⟩), .int .u64 150] 74))).alloc (.cells #[.pointer (some ⟨16, 65, none⟩), .pointer (some ⟨w.heap.size, 0, none⟩), .int .u64 150] 74)).alloc (.cells #[.pointer (some q)] 27))
    (by rw [World.cell?_alloc_at _ _ _ _ (by simp)]; rfl)
    (by rw [World.cell?_alloc_lt _ _ t (by simp; omega), World.cell?_alloc_lt _ _ t (by simp; omega), World.cell?_alloc_lt _ _ t (by simp; omega), World.cell?_alloc_lt _ _ t htl]; exact ht0)
    (by rw [World.frozen?_alloc_old _ _ t (by simp; omega), World.frozen?_alloc_old _ _ t (by simp; omega), World.frozen?_alloc_old _ _ t (by simp; omega), World.frozen?_alloc_old _ _ t (Nat.ne_of_lt htl)]; exact hf0)
  have tO3 := Ybaf.typeOf30
  have a30 := Ybaf.assignable30
  have y1 := Ybaf.noAs30
  have y2 := Ybaf.un30
  have y3 := Ybaf.methodUnwrap30
  have hbl : b < w.heap.size := lt_of_cell hb
  have hb3 : ((((w.alloc (.cells #[.pointer (some t)] 65)).alloc (.cells #[.pointer (some ⟨16, 65, none⟩), .pointer (some ⟨w.heap.size, 0, none⟩), .int .u64 150] 74))).alloc (.cells #[.pointer (some ⟨16, 65, none⟩), .pointer (some ⟨w.heap.size, 0, none⟩), .int .u64 150] 74)).cell? ⟨b, 1, none⟩ = some (.iface 27 (.pointer (some q))) := by
    rw [World.cell?_alloc_lt _ _ ⟨b, 1, none⟩ (by simp; omega), World.cell?_alloc_lt _ _ ⟨b, 1, none⟩ (by simp; omega), World.cell?_alloc_lt _ _ ⟨b, 1, none⟩ hbl]; exact hb
  go_enter Ybaf.func11, Ybaf.ntmps11
  go_wp2
  refine wp_loop_rounds 2 ?_
  rw [rounds_succ]
  go_wp2_with (go_at_call 93; refine (unwrap30 b _ _ hb3).mono ?_; rintro e w' ⟨rfl, rfl⟩)
  rw [rounds_succ]
  go_wp2
  go_ret
  exact ⟨rfl, rfl⟩

set_option maxHeartbeats 4000000 in
theorem as_wrap_miss (b : Nat) (q t : Addr) (w : World) (hb : w.cell? ⟨b, 1, none⟩ = some (.iface 22 (.pointer (some q)))) (hg : w.cell? ⟨0, 0, none⟩ = some (.iface 97 (.agg #[.pointer (some ⟨16, 26, none⟩)]))) :
    Calls Ybaf.prog 11 #[.iface 30 (.pointer (some ⟨b, 0, none⟩)), .iface 65 (.pointer (some t))] w fun ev w' => ev = .returned (.bool false) ∧ w' = w3 w t := by
  have h6 := @run_callFunc_extern Ybaf.prog 16 _ (fun args => ReflectliteValue.unpack (args.getD 0 (.tuple #[]))) Ybaf.func16 (by kernel_rfl) (by kernel_rfl) (by kernel_rfl) (by kernel_rfl)
  have h7 := @run_callFunc_extern Ybaf.prog 17 _ (ReflectliteValue.methodAny (ReflectliteValue.valueError "reflectlite.Value.Type" 0) (fun t _ _ _ => ReflectliteType.toType t)) Ybaf.func17 (by kernel_rfl) (by kernel_rfl) (by kernel_rfl) (by kernel_rfl)
  have h8 := @run_callFunc_extern Ybaf.prog 18 _ (ReflectliteValue.method (ReflectliteValue.valueError "reflectlite.Value.IsNil" 0) ReflectliteValue.isNil) Ybaf.func18 (by kernel_rfl) (by kernel_rfl) (by kernel_rfl) (by kernel_rfl)
  have h27 := @run_callFunc_extern Ybaf.prog 86 _ (ReflectliteType.abiMethod fun t => do pure (.int .u8 (← Rtype.kind t))) Ybaf.func86 (by kernel_rfl) (by kernel_rfl) (by kernel_rfl) (by kernel_rfl)
  have h37 := @run_callFunc_extern Ybaf.prog 104 _ (ReflectliteType.method ReflectliteType.elem) Ybaf.func104 (by kernel_rfl) (by kernel_rfl) (by kernel_rfl) (by kernel_rfl)
  have h38 := @run_callFunc_extern Ybaf.prog 105 _ (ReflectliteType.relation "Implements" ReflectliteType.implements_) Ybaf.func105 (by kernel_rfl) (by kernel_rfl) (by kernel_rfl) (by kernel_rfl)
  have h10 := @run_callFunc_extern Ybaf.prog 29 _ ReflectliteType.typeOf Ybaf.func29 (by kernel_rfl) (by kernel_rfl) (by kernel_rfl) (by kernel_rfl)
  have h35 := @run_callFunc_extern Ybaf.prog 102 _ (ReflectliteType.relation "AssignableTo" ReflectliteType.assignableTo) Ybaf.func102 (by kernel_rfl) (by kernel_rfl) (by kernel_rfl) (by kernel_rfl)
  have mA := Ybaf.methodAssignableTo
  have f6 := Ybaf.valueOf65
  have f7 := Ybaf.type65
  have mK := Ybaf.methodKind
  have mE := Ybaf.methodElem
  have mI := Ybaf.methodImplements
  have k27 := Ybaf.kind65
  have k25 := Ybaf.kind27
  have e27 := Ybaf.elem65
  have i25 := Ybaf.implements27
  have n8 := Ybaf.isNil65 ⟨w.heap.size, 0, none⟩ t ((w.alloc (.cells #[.pointer (some t)] 65)).alloc (.cells #[.pointer (some ⟨16, 65, none⟩), .pointer (some ⟨w.heap.size, 0, none⟩), .int .u64 150] 74)) (by simp)
  have hlt : 0 < w.heap.size := lt_of_cell hg
  have hg2 : ((w.alloc (.cells #[.pointer (some t)] 65)).alloc (.cells #[.pointer (some ⟨16, 65, none⟩), .pointer (some ⟨w.heap.size, 0, none⟩), .int .u64 150] 74)).cell? ⟨0, 0, none⟩ = some (.iface 97 (.agg #[.pointer (some ⟨16, 26, none⟩)])) := by
    rw [World.cell?_alloc_lt _ _ ⟨0, 0, none⟩ (by simp), World.cell?_alloc_lt _ _ ⟨0, 0, none⟩ hlt]; exact hg
  have tO := Ybaf.typeOf22
  have a22 := Ybaf.assignable22
  have x1 := Ybaf.noAs22
  have x2 := Ybaf.noUn22
  have x3 := Ybaf.noUns22
  have tO3 := Ybaf.typeOf30
  have a30 := Ybaf.assignable30
  have y1 := Ybaf.noAs30
  have y2 := Ybaf.un30
  have y3 := Ybaf.methodUnwrap30
  have hbl : b < w.heap.size := lt_of_cell hb
  have hb3 : ((((w.alloc (.cells #[.pointer (some t)] 65)).alloc (.cells #[.pointer (some ⟨16, 65, none⟩), .pointer (some ⟨w.heap.size, 0, none⟩), .int .u64 150] 74))).alloc (.cells #[.pointer (some ⟨16, 65, none⟩), .pointer (some ⟨w.heap.size, 0, none⟩), .int .u64 150] 74)).cell? ⟨b, 1, none⟩ = some (.iface 22 (.pointer (some q))) := by
    rw [World.cell?_alloc_lt _ _ ⟨b, 1, none⟩ (by simp; omega), World.cell?_alloc_lt _ _ ⟨b, 1, none⟩ (by simp; omega), World.cell?_alloc_lt _ _ ⟨b, 1, none⟩ hbl]; exact hb
  go_enter Ybaf.func11, Ybaf.ntmps11
  go_wp2
  refine wp_loop_rounds 2 ?_
  rw [rounds_succ]
  go_wp2_with (go_at_call 93; refine (unwrap30 b _ _ hb3).mono ?_; rintro e w' ⟨rfl, rfl⟩)
  rw [rounds_succ]
  go_wp2
  go_ret
  exact ⟨rfl, rfl⟩
end Go.Proofs.YbulkefveFmt
