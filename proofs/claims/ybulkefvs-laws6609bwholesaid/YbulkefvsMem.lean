/-
  Whole blocks and the frame.
-/
import Derived.Test.YbulkefvsLocks
import Derived.Below
import Derived.BigQuiet
import Derived.Deep.QuietTactic
import Derived.Laws.IdiomCopy
namespace Go.Proofs.Ybulkefvs
open Go.RowKit

/-- Block b holds just these cells, of type T, none frozen. -/
def Blk (w : World) (b : Nat) (cs : Array Value) (T : TypeId) : Prop := w.heap[b]? = some (.cells cs T (0, 0))
theorem Blk.lt {w : World} {b : Nat} {cs : Array Value} {T : TypeId} (h : Blk w b cs T) : b < w.heap.size := (Array.getElem?_eq_some_iff.1 h).1
theorem Blk.cell {w : World} {b : Nat} {cs : Array Value} {T : TypeId} (h : Blk w b cs T) (o : Nat) : w.cell? ⟨b, o, none⟩ = cs[o]? := by
  unfold Blk at h
  simp [World.cell?, h]
theorem Blk.frozen {w : World} {b : Nat} {cs : Array Value} {T : TypeId} (h : Blk w b cs T) (o : Nat) : w.frozen? ⟨b, o, none⟩ = false := by
  unfold Blk at h
  simp [World.frozen?, h]
theorem Blk.set_same {w : World} {b : Nat} {cs : Array Value} {T : TypeId} (h : Blk w b cs T) (o : Nat) (v : Value) : Blk (w.setCell ⟨b, o, none⟩ v) b (cs.setIfInBounds o v) T := by
  unfold Blk at *
  simp [World.setCell, Array.getElem?_modify, h]
theorem Blk.set_other {w : World} {b b' : Nat} {cs : Array Value} {T : TypeId} (h : Blk w b cs T) (hne : b ≠ b') (o : Nat) (v : Value) : Blk (w.setCell ⟨b', o, none⟩ v) b cs T := by
  unfold Blk at *
  rw [Below.heap_setCell _ _ _ _ hne]
  exact h
theorem Blk.alloc {w : World} {b : Nat} {cs : Array Value} {T : TypeId} (h : Blk w b cs T) (o : Obj) : Blk (w.alloc o) b cs T := by
  have := h.lt
  unfold Blk at *
  rw [Below.heap_alloc _ _ _ this]
  exact h
theorem Blk.new (w : World) (cs : Array Value) (T : TypeId) : Blk (w.alloc (.cells cs T)) w.heap.size cs T := by
  unfold Blk
  show (w.heap.push _)[w.heap.size]? = _
  simp

/-- What a call that owns the blocks S has done: nothing outside S has turned. -/
structure Fr (S : Nat → Prop) (w w' : World) : Prop where
  os : w'.os = w.os
  tape : w'.tape = w.tape
  output : w'.output = w.output
  size : w.heap.size ≤ w'.heap.size
  keep : ∀ b, b < w.heap.size → ¬ S b → w'.heap[b]? = w.heap[b]?
theorem Fr.refl (S : Nat → Prop) (w : World) : Fr S w w := ⟨rfl, rfl, rfl, Nat.le_refl _, fun _ _ _ => rfl⟩
theorem Fr.trans {S : Nat → Prop} {a b c : World} (h : Fr S a b) (k : Fr S b c) : Fr S a c :=
  ⟨k.os.trans h.os, k.tape.trans h.tape, k.output.trans h.output, Nat.le_trans h.size k.size, fun i hi hs => (k.keep i (Nat.lt_of_lt_of_le hi h.size) hs).trans (h.keep i hi hs)⟩
theorem Fr.mono {S S' : Nat → Prop} {w w' : World} (h : Fr S w w') (hs : ∀ b, S b → S' b) : Fr S' w w' := ⟨h.os, h.tape, h.output, h.size, fun b hb hn => h.keep b hb (fun k => hn (hs b k))⟩
theorem Fr.draw {S : Nat → Prop} {a w : World} (h : Fr S a w) : Fr S a w.drew := ⟨h.os, h.tape, h.output, h.size, h.keep⟩
theorem Fr.drawN {S : Nat → Prop} {a w : World} (h : Fr S a w) (n : Nat) : Fr S a (w.drewN n) := ⟨h.os, h.tape, h.output, h.size, h.keep⟩
theorem Fr.alloc {S : Nat → Prop} {a w : World} (h : Fr S a w) (o : Obj) : Fr S a (w.alloc o) :=
  h.trans ⟨rfl, rfl, rfl, by simp, fun k hk _ => Below.heap_alloc _ _ _ hk⟩
theorem Fr.setCell {S : Nat → Prop} {a w : World} (h : Fr S a w) {p : Addr} (hp : S p.block) (u : Value) : Fr S a (w.setCell p u) :=
  h.trans ⟨rfl, rfl, rfl, by simp [World.setCell], fun k _ hn => Below.heap_setCell _ _ _ _ (fun e => hn (e ▸ hp))⟩
theorem Fr.setCells {S : Nat → Prop} {b : Nat} (hb : S b) : ∀ (vs : List Value) (o : Nat) {a w : World}, Fr S a w → Fr S a (w.setCells b o vs)
  | [], _, _, _, h => h
  | v :: r, o, _, _, h => Fr.setCells hb r (o + 1) (h.setCell (p := ⟨b, o, none⟩) hb v)
theorem Fr.below {S : Nat → Prop} {w w' : World} (h : Fr S w w') {B : Nat} (hB : B ≤ w.heap.size) (hS : ∀ b, S b → B ≤ b) : Below B w w' :=
  ⟨h.os, h.tape, h.output, h.size, fun k hk => h.keep k (by omega) (fun s => by have := hS k s; omega)⟩
theorem Fr.blk {S : Nat → Prop} {w w' : World} (h : Fr S w w') {b : Nat} {cs : Array Value} {T : TypeId} (hb : Blk w b cs T) (hn : ¬ S b) : Blk w' b cs T := by
  have := hb.lt
  unfold Blk at *
  rw [h.keep b this hn]
  exact hb

/-- What stands in a block behind a row of stores. -/
theorem Blk.setCells : ∀ (vs : List Value) (o : Nat) {w : World} {b : Nat} {cs : Array Value} {T : TypeId}, Blk w b cs T → ∃ cs', Blk (w.setCells b o vs) b cs' T ∧ cs'.size = cs.size ∧ (∀ j, j < o → cs'[j]? = cs[j]?) ∧ (∀ j, j < vs.length → o + j < cs.size → cs'[o + j]? = vs[j]?) ∧ (∀ j, o + vs.length ≤ j → cs'[j]? = cs[j]?)
  | [], o, w, b, cs, T, h => ⟨cs, h, rfl, fun _ _ => rfl, fun j hj => by simp at hj, fun _ _ => rfl⟩
  | v :: r, o, w, b, cs, T, h => by
    obtain ⟨cs', h1, h2, h3, h4, h5⟩ := Blk.setCells r (o + 1) (h.set_same o v)
    refine ⟨cs', h1, by rw [h2]; simp, fun j hj => ?_, fun j hj hl => ?_, fun j hj => ?_⟩
    · rw [h3 j (by omega), Array.getElem?_setIfInBounds_ne (by omega)]
    · cases j with
      | zero =>
        rw [Nat.add_zero, h3 o (by omega), Array.getElem?_setIfInBounds_self]
        simp at hl
        simp [hl]
      | succ j =>
        rw [show o + (j + 1) = o + 1 + j by omega]
        rw [h4 j (by simp at hj; omega) (by simp; omega)]
        simp
    · rw [h5 j (by simp at hj; omega), Array.getElem?_setIfInBounds_ne (by simp at hj; omega)]
end Go.Proofs.Ybulkefvs
