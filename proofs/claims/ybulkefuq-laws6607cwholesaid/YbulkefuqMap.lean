/-
  The cache's map of dictionaries: how it reads.
-/
import Derived.Test.YbulkefuqCache
import Derived.Maps.RangeWalk
import Derived.Maps.OwnSet
namespace Go.Proofs.Ybulkefuq
open Go.RowKit Go.Maps

/-- A pointer to a whole block, or nil. -/
def ptrVal : Option Nat → Value
  | none => .pointer none
  | some b => .pointer (some ⟨b, 0, none⟩)
/-- What it reads as (a ghost of this proof). -/
def ptrDat : Option Nat → DataW Unit
  | none => .nil
  | some b => .lit (.int .u64 b)
def ptrElem (v : Value) : Option (DataW Unit × List MemPlace) :=
  match v with
  | .pointer none => some (.nil, [])
  | .pointer (some ⟨b, 0, none⟩) => some (.lit (.int .u64 b), [])
  | _ => none

theorem ptrElem_mk (c : Option Nat) : ptrElem (ptrVal c) = some (ptrDat c, []) := by cases c <;> rfl
theorem ptrElem_inv (v : Value) (y : DataW Unit × List MemPlace) (h : ptrElem v = some y) : ∃ c, v = ptrVal c := by
  unfold ptrElem at h
  split at h
  · exact ⟨none, rfl⟩
  · exact ⟨some _, rfl⟩
  · cases h
theorem ptrDat_inj {c d : Option Nat} (h : ptrDat c = ptrDat d) : c = d := by
  cases c <;> cases d <;> simp [ptrDat] at h ⊢
  omega

theorem law38 : Keyed Yba.prog 38 := int_keyed Yba.underlying38
theorem zero24 (w : World) : (zeroValue 24).run Yba.prog w = .ok (.pointer none) w := by kernel_rfl

theorem key_mk (k : Nat) (h : k < 18446744073709551616) : keyOf Yba.prog 38 (.int .u64 k) = some (.int .u64 k) := keyOf_int_mk Yba.underlying38 (by simp [Lit.wf, IntKind.min, IntKind.max, IntKind.signed, IntKind.bits]; omega)
theorem isKey (k : Nat) : WideAt.IsKeyLit (.int .u64 (k : Int)) := by trivial

/-- The map reads as M: at each key its dictionary's block. -/
def MapIs (D : DataW Unit) (M : Nat → Option Nat) : Prop := Tidy D ∧ ∀ k : Nat, ∀ zd, D.atKey (.int .u64 k) zd = match M k with | some b => .lit (.int .u64 b) | none => zd

theorem mapIs_empty : MapIs (.map []) (fun _ => none) := ⟨tidy_empty, fun _ _ => rfl⟩
theorem MapIs.put {D : DataW Unit} {M : Nat → Option Nat} (h : MapIs D M) (k b : Nat) : MapIs (D.put (.int .u64 k) (.lit (.int .u64 b))) (fun j => if j = k then some b else M j) := by
  refine ⟨h.1.put (isKey k) _, fun j zd => ?_⟩
  by_cases e : j = k
  · subst e
    rw [atKey_put_same h.1.isMap (isKey j)]
    simp
  · rw [atKey_put_other (by simp; omega), h.2 j zd]
    simp [e]
theorem MapIs.size_put {D : DataW Unit} {M : Nat → Option Nat} (h : MapIs D M) (k : Nat) (hk : M k = none) (d : DataW Unit) : Maps.size (D.put (.int .u64 k) d) = Maps.size D + 1 := by
  have hh : Maps.has D (.int .u64 k) = false := has_false_of_atKey fun z => by rw [h.2 k z, hk]
  rw [Maps.size_put h.1, hh]
  rfl
theorem MapIs.has {D : DataW Unit} {M : Nat → Option Nat} (h : MapIs D M) {k b : Nat} (hk : M k = some b) : Maps.has D (.int .u64 k) = true :=
  has_true_of_atKey (y := .lit (.int .u64 b)) fun z => by rw [h.2 k z, hk]
theorem MapIs.of_at {D : DataW Unit} {M : Nat → Option Nat} (h : MapIs D M) {k : Nat} {c : Option Nat} (hc : ∀ zd, D.atKey (.int .u64 k) zd = ptrDat c) : M k = c ∧ c ≠ none := by
  cases hk : M k with
  | none =>
    exfalso
    have h1 := hc .nil
    have h2 := hc (.lit (.bool true))
    rw [h.2 k, hk] at h1 h2
    rw [← h1] at h2
    cases h2
  | some b =>
    have h1 := hc .nil
    rw [h.2 k, hk] at h1
    have : some b = c := ptrDat_inj (c := some b) h1
    exact ⟨this, by rw [← this]; simp⟩
end Go.Proofs.Ybulkefuq
