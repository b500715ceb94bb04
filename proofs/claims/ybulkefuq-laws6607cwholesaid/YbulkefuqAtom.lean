/-
  sync/atomic.Pointer[T].Load and Store at this program's three types, one goroutine.
-/
import Derived.Test.YbulkefuqLocks
import Derived.Lib.Builder
import Derived.WalkSpells
namespace Go.Proofs.Ybulkefuq
open Go.RowKit

section
variable {P : Program} {f : FuncId} {fn : Func}
/-- sync/atomic.LoadPointer: what the cell holds. -/
theorem run_call_loadP (hf : P.funcs[f]? = some fn) (hname : (fn.name == "runtime.NumGoroutine") = false) (hb : fn.body.isNone = true) (hn : Extern.findNext fn = none)
    (he : Extern.find fn = some (Extern.Atomic.loadT .ptr)) {a : Addr} {x : Option Addr} {w : World} (hc : w.cell? a = some (.pointer x)) :
    (callFunc f #[.pointer (some a)]).run P w = .ok (.value (.pointer x)) w := by
  rw [run_callFunc_extern hf hname hb hn he]
  change (Sem.run P (do Extern.Atomic.read .ptr (← asAddr (.pointer (some a)))) w).andThen _ = _
  simp [Extern.Atomic.read, asAddr, hc, Result.andThen]

/-- sync/atomic.StorePointer: the pointer is stored. -/
theorem run_call_storeP (hf : P.funcs[f]? = some fn) (hname : (fn.name == "runtime.NumGoroutine") = false) (hb : fn.body.isNone = true) (hn : Extern.findNext fn = none)
    (he : Extern.find fn = some Extern.Atomic.storeT) {a : Addr} {y : Option Addr} {u : Value} {w : World} (hc : w.cell? a = some u) (hz : w.frozen? a = false) :
    (callFunc f #[.pointer (some a), .pointer y]).run P w = .ok (.value (.tuple #[])) (w.setCell a (.pointer y)) := by
  rw [run_callFunc_extern hf hname hb hn he]
  change (Sem.run P (do
    store (← asAddr (.pointer (some a))) (.pointer y) .atomic
    pure Extern.Atomic.none_) w).andThen _ = _
  simp [asAddr, hc, hz, run_store P w a (.pointer y) .atomic rfl, Result.andThen, Extern.Atomic.none_]
end

/-! ### the conversions between a pointer and the bare pointer that sync/atomic holds -/
set_option maxRecDepth 100000
theorem cv_from44 (a : Addr) (w : World) : ∃ E : Addr → Sem Value, (convert 29 44 (.pointer (some a))).run Yba.prog w =
    Sem.run Yba.prog (do
      let s ← Conv.seenAt a
      if (← Go.sizeOf 54) = 0 || (← variablesAt s 54 1) then pure (.pointer (some s)) else E s) w := ⟨_, rfl⟩
theorem from44 {w : World} {a : Addr} {e : TypeId} {cells : Nat} (hsh : w.shape? a.block = some (e, cells)) (hlies : liesAt Yba.prog Yba.prog.depth e (cells / Yba.prog.cellsOf e) a.off 54 1 = true) :
    (convert 29 44 (.pointer (some a))).run Yba.prog w = .ok (.pointer (some a)) w := by
  obtain ⟨E, hE⟩ := cv_from44 a w
  obtain ⟨j, hu⟩ : ∃ j, Yba.prog.info? 54 = some j := Option.isSome_iff_exists.1 (by kernel_rfl)
  rw [hE]
  simp [Conv.seenAt, viewAt, hsh, variablesAt, hlies, sizeOf, typeInfo, hu]
theorem cv_from39 (a : Addr) (w : World) : ∃ E : Addr → Sem Value, (convert 29 39 (.pointer (some a))).run Yba.prog w =
    Sem.run Yba.prog (do
      let s ← Conv.seenAt a
      if (← Go.sizeOf 49) = 0 || (← variablesAt s 49 1) then pure (.pointer (some s)) else E s) w := ⟨_, rfl⟩
theorem from39 {w : World} {a : Addr} {e : TypeId} {cells : Nat} (hsh : w.shape? a.block = some (e, cells)) (hlies : liesAt Yba.prog Yba.prog.depth e (cells / Yba.prog.cellsOf e) a.off 49 1 = true) :
    (convert 29 39 (.pointer (some a))).run Yba.prog w = .ok (.pointer (some a)) w := by
  obtain ⟨E, hE⟩ := cv_from39 a w
  obtain ⟨j, hu⟩ : ∃ j, Yba.prog.info? 49 = some j := Option.isSome_iff_exists.1 (by kernel_rfl)
  rw [hE]
  simp [Conv.seenAt, viewAt, hsh, variablesAt, hlies, sizeOf, typeInfo, hu]
theorem cv_from25 (a : Addr) (w : World) : ∃ E : Addr → Sem Value, (convert 29 25 (.pointer (some a))).run Yba.prog w =
    Sem.run Yba.prog (do
      let s ← Conv.seenAt a
      if (← Go.sizeOf 36) = 0 || (← variablesAt s 36 1) then pure (.pointer (some s)) else E s) w := ⟨_, rfl⟩
theorem from25 {w : World} {a : Addr} {e : TypeId} {cells : Nat} (hsh : w.shape? a.block = some (e, cells)) (hlies : liesAt Yba.prog Yba.prog.depth e (cells / Yba.prog.cellsOf e) a.off 36 1 = true) :
    (convert 29 25 (.pointer (some a))).run Yba.prog w = .ok (.pointer (some a)) w := by
  obtain ⟨E, hE⟩ := cv_from25 a w
  obtain ⟨j, hu⟩ : ∃ j, Yba.prog.info? 36 = some j := Option.isSome_iff_exists.1 (by kernel_rfl)
  rw [hE]
  simp [Conv.seenAt, viewAt, hsh, variablesAt, hlies, sizeOf, typeInfo, hu]
theorem cv_to44 (a : Addr) (w : World) : ∃ E : Addr → Sem Value, (convert 44 29 (.pointer (some a))).run Yba.prog w =
    Sem.run Yba.prog (do
      let s ← Conv.seenAt a
      let c ← cellsIn s.block
      if (← Go.sizeOf 54) = 0 || (match c with | some cells => decide (s.off ≥ cells) && s.spot.isNone | none => false) then E s else pure (.pointer (some s))) w := ⟨_, rfl⟩
theorem to44 {w : World} {a : Addr} {e : TypeId} {cells : Nat} (hsh : w.shape? a.block = some (e, cells)) (hoff : a.off < cells) : (convert 44 29 (.pointer (some a))).run Yba.prog w = .ok (.pointer (some a)) w := by
  obtain ⟨E, hE⟩ := cv_to44 a w
  have h4 : (Yba.prog.info? 54).map (fun i => i.size) = some 3 := by kernel_rfl
  obtain ⟨j, hj, hz⟩ := Option.map_eq_some_iff.1 h4
  have hge : ¬ (cells ≤ a.off) := by omega
  rw [hE]
  simp [Conv.seenAt, viewAt, cellsIn, hsh, sizeOf, typeInfo, hj, hz, hge]
theorem cv_to39 (a : Addr) (w : World) : ∃ E : Addr → Sem Value, (convert 39 29 (.pointer (some a))).run Yba.prog w =
    Sem.run Yba.prog (do
      let s ← Conv.seenAt a
      let c ← cellsIn s.block
      if (← Go.sizeOf 49) = 0 || (match c with | some cells => decide (s.off ≥ cells) && s.spot.isNone | none => false) then E s else pure (.pointer (some s))) w := ⟨_, rfl⟩
theorem to39 {w : World} {a : Addr} {e : TypeId} {cells : Nat} (hsh : w.shape? a.block = some (e, cells)) (hoff : a.off < cells) : (convert 39 29 (.pointer (some a))).run Yba.prog w = .ok (.pointer (some a)) w := by
  obtain ⟨E, hE⟩ := cv_to39 a w
  have h4 : (Yba.prog.info? 49).map (fun i => i.size) = some 256 := by kernel_rfl
  obtain ⟨j, hj, hz⟩ := Option.map_eq_some_iff.1 h4
  have hge : ¬ (cells ≤ a.off) := by omega
  rw [hE]
  simp [Conv.seenAt, viewAt, cellsIn, hsh, sizeOf, typeInfo, hj, hz, hge]
theorem cv_to25 (a : Addr) (w : World) : ∃ E : Addr → Sem Value, (convert 25 29 (.pointer (some a))).run Yba.prog w =
    Sem.run Yba.prog (do
      let s ← Conv.seenAt a
      let c ← cellsIn s.block
      if (← Go.sizeOf 36) = 0 || (match c with | some cells => decide (s.off ≥ cells) && s.spot.isNone | none => false) then E s else pure (.pointer (some s))) w := ⟨_, rfl⟩
theorem to25 {w : World} {a : Addr} {e : TypeId} {cells : Nat} (hsh : w.shape? a.block = some (e, cells)) (hoff : a.off < cells) : (convert 25 29 (.pointer (some a))).run Yba.prog w = .ok (.pointer (some a)) w := by
  obtain ⟨E, hE⟩ := cv_to25 a w
  have h4 : (Yba.prog.info? 36).map (fun i => i.size) = some 1 := by kernel_rfl
  obtain ⟨j, hj, hz⟩ := Option.map_eq_some_iff.1 h4
  have hge : ¬ (cells ≤ a.off) := by omega
  rw [hE]
  simp [Conv.seenAt, viewAt, cellsIn, hsh, sizeOf, typeInfo, hj, hz, hge]
theorem cv_to86 (a : Addr) (w : World) : ∃ E : Addr → Sem Value, (convert 86 29 (.pointer (some a))).run Yba.prog w =
    Sem.run Yba.prog (do
      let s ← Conv.seenAt a
      let c ← cellsIn s.block
      if (← Go.sizeOf 62) = 0 || (match c with | some cells => decide (s.off ≥ cells) && s.spot.isNone | none => false) then E s else pure (.pointer (some s))) w := ⟨_, rfl⟩
theorem to86 {w : World} {a : Addr} {e : TypeId} {cells : Nat} (hsh : w.shape? a.block = some (e, cells)) (hoff : a.off < cells) : (convert 86 29 (.pointer (some a))).run Yba.prog w = .ok (.pointer (some a)) w := by
  obtain ⟨E, hE⟩ := cv_to86 a w
  have h4 : (Yba.prog.info? 62).map (fun i => i.size) = some 2 := by kernel_rfl
  obtain ⟨j, hj, hz⟩ := Option.map_eq_some_iff.1 h4
  have hge : ¬ (cells ≤ a.off) := by omega
  rw [hE]
  simp [Conv.seenAt, viewAt, cellsIn, hsh, sizeOf, typeInfo, hj, hz, hge]

theorem loadP {a : Addr} {x : Option Addr} {w : World} (hc : w.cell? a = some (.pointer x)) : (callFunc 14 #[.pointer (some a)]).run Yba.prog w = .ok (.value (.pointer x)) w :=
  run_call_loadP Yba.func14 (by kernel_rfl) (by kernel_rfl) (by kernel_rfl) (by kernel_rfl) hc
theorem storeP {a : Addr} {y : Option Addr} {u : Value} {w : World} (hc : w.cell? a = some u) (hz : w.frozen? a = false) : (callFunc 15 #[.pointer (some a), .pointer y]).run Yba.prog w = .ok (.value (.tuple #[])) (w.setCell a (.pointer y)) :=
  run_call_storeP Yba.func15 (by kernel_rfl) (by kernel_rfl) (by kernel_rfl) (by kernel_rfl) hc hz

/-- Load of a chunk -/
theorem load4 (a : Addr) (x : Option Addr) (w : World) (hc : w.cell? a = some (.pointer x)) (hcv : (convert 29 39 (.pointer x)).run Yba.prog w = .ok (.pointer x) w) :
    Calls Yba.prog 4 #[.pointer (some a)] w fun e w' => e = .returned (.pointer x) ∧ w = w' := by
  have hl := loadP hc
  go_enter Yba.func4, Yba.ntmps4
  go_wp2
  go_ret
  exact ⟨rfl, rfl⟩
/-- Load of the chunks -/
theorem load11 (a : Addr) (x : Option Addr) (w : World) (hc : w.cell? a = some (.pointer x)) (hcv : (convert 29 25 (.pointer x)).run Yba.prog w = .ok (.pointer x) w) :
    Calls Yba.prog 11 #[.pointer (some a)] w fun e w' => e = .returned (.pointer x) ∧ w = w' := by
  have hl := loadP hc
  go_enter Yba.func11, Yba.ntmps11
  go_wp2
  go_ret
  exact ⟨rfl, rfl⟩
/-- Load of an entry -/
theorem load20 (a : Addr) (x : Option Addr) (w : World) (hc : w.cell? a = some (.pointer x)) (hcv : (convert 29 44 (.pointer x)).run Yba.prog w = .ok (.pointer x) w) :
    Calls Yba.prog 20 #[.pointer (some a)] w fun e w' => e = .returned (.pointer x) ∧ w = w' := by
  have hl := loadP hc
  go_enter Yba.func20, Yba.ntmps20
  go_wp2
  go_ret
  exact ⟨rfl, rfl⟩
/-- Store of a chunk -/
theorem store5 (a : Addr) (y : Option Addr) (u : Value) (w : World) (hc : w.cell? a = some u) (hz : w.frozen? a = false) (hcv : (convert 39 29 (.pointer y)).run Yba.prog w = .ok (.pointer y) w) :
    Calls Yba.prog 5 #[.pointer (some a), .pointer y] w fun e w' => e = .returned (.tuple #[]) ∧ w' = w.setCell a (.pointer y) := by
  have hs := storeP (y := y) hc hz
  go_enter Yba.func5, Yba.ntmps5
  go_wp2
  go_end0
  exact ⟨rfl, rfl⟩
/-- Store of an entry -/
theorem store6 (a : Addr) (y : Option Addr) (u : Value) (w : World) (hc : w.cell? a = some u) (hz : w.frozen? a = false) (hcv : (convert 44 29 (.pointer y)).run Yba.prog w = .ok (.pointer y) w) :
    Calls Yba.prog 6 #[.pointer (some a), .pointer y] w fun e w' => e = .returned (.tuple #[]) ∧ w' = w.setCell a (.pointer y) := by
  have hs := storeP (y := y) hc hz
  go_enter Yba.func6, Yba.ntmps6
  go_wp2
  go_end0
  exact ⟨rfl, rfl⟩
/-- Store of the chunks -/
theorem store7 (a : Addr) (y : Option Addr) (u : Value) (w : World) (hc : w.cell? a = some u) (hz : w.frozen? a = false) (hcv : (convert 25 29 (.pointer y)).run Yba.prog w = .ok (.pointer y) w) :
    Calls Yba.prog 7 #[.pointer (some a), .pointer y] w fun e w' => e = .returned (.tuple #[]) ∧ w' = w.setCell a (.pointer y) := by
  have hs := storeP (y := y) hc hz
  go_enter Yba.func7, Yba.ntmps7
  go_wp2
  go_end0
  exact ⟨rfl, rfl⟩

set_option maxRecDepth 100000 in
set_option maxHeartbeats 800000 in
/-- internal/sync's TryLock at a free lock: it is taken. -/
theorem itrylock_free (a : Addr) (w : World) (hc : w.cell? a = some (.int .i32 0)) (hz : w.frozen? a = false) :
    Calls Yba.prog 18 #[.pointer (some a)] w fun e w' => e = .returned (.bool true) ∧ w' = w.setCell a (.int .i32 1) := by
  have hd := Go.MuLone.disable muLib
  have he := Go.MuLone.enable muLib
  have ha := Go.MuLone.acquire muLib
  obtain ⟨se, sn, hsh, hoff, _⟩ := World.shape?_of_cell? (World.cell?_setCell_same w a (.int .i32 1) hc)
  have hcv := to86 hsh hoff
  clear hsh hoff
  have hcas := run_call_cas_hit (P := Yba.prog) Yba.func24 (by kernel_rfl) (by kernel_rfl) (by kernel_rfl) .i32 (by kernel_rfl) (y := 1) hc hz
  have hand : ∀ w : World, (binOp .and 21 (.int .i32 0) (.int .i32 5)).run Yba.prog w = .ok (.int .i32 0) w := fun _ => by kernel_rfl
  have hor : ∀ w : World, (binOp .or 21 (.int .i32 0) (.int .i32 1)).run Yba.prog w = .ok (.int .i32 1) w := fun _ => by kernel_rfl
  go_enter Yba.func18, Yba.ntmps18
  go_wp2
  go_ret
  exact ⟨rfl, rfl⟩

set_option maxRecDepth 100000 in
set_option maxHeartbeats 800000 in
/-- (*sync.Mutex).TryLock at a free lock: it is taken. -/
theorem trylock_free (a : Addr) (w : World) (hc : w.cell? a = some (.int .i32 0)) (hz : w.frozen? a = false) :
    Calls Yba.prog 9 #[.pointer (some a)] w fun e w' => e = .returned (.bool true) ∧ w' = w.setCell a (.int .i32 1) := by
  go_enter Yba.func9, Yba.ntmps9
  go_wp2_with (go_at_call 18; refine (itrylock_free a _ hc hz).mono ?_; rintro e w' ⟨rfl, rfl⟩)
  go_ret
  exact ⟨rfl, rfl⟩
end Go.Proofs.Ybulkefuq
