/-
  What a dictionary is in memory: its chunk table, block by block; the frame; the plain facts.
-/
import Derived.Test.YbulkefuqAtom
import Derived.BigQuiet
import Derived.Deep.QuietTactic
namespace Go.Proofs.Ybulkefuq
open Go.RowKit

/-- Block b holds just these cells, of type T, none frozen. -/
def Blk (w : World) (b : Nat) (cs : Array Value) (T : TypeId) : Prop := w.heap[b]? = some (.cells cs T (0, 0))

theorem Blk.lt {w : World} {b : Nat} {cs : Array Value} {T : TypeId} (h : Blk w b cs T) : b < w.heap.size := (Array.getElem?_eq_some_iff.1 h).1
theorem Blk.cell {w : World} {b : Nat} {cs : Array Value} {T : TypeId} (h : Blk w b cs T) (o : Nat) : w.cell? ⟨b, o, none⟩ = cs[o]? := by
  unfold Blk at h
  simp [World.cell?, h]
theorem Blk.frozen {w : World} {b : Nat} {cs : Array Value} {T : TypeId} (h : Blk w b cs T) (o : Nat) : w.frozen? ⟨b, o, none⟩ = false := by
  unfold Blk at h
  simp [World.frozen?, h]
theorem Blk.shape {w : World} {b : Nat} {cs : Array Value} {T : TypeId} (h : Blk w b cs T) : w.shape? b = some (T, cs.size) := by
  unfold Blk at h
  simp [World.shape?, h]
theorem Blk.eq {w : World} {b : Nat} {cs cs' : Array Value} {T T' : TypeId} (h : Blk w b cs T) (h' : Blk w b cs' T') : cs = cs' ∧ T = T' := by
  unfold Blk at h h'
  rw [h] at h'
  simpa using h'
theorem Blk.ne {w : World} {b b' : Nat} {cs cs' : Array Value} {T T' : TypeId} (h : Blk w b cs T) (h' : Blk w b' cs' T') (hT : T ≠ T') : b ≠ b' := by
  rintro rfl
  exact hT (h.eq h').2
theorem Blk.set_same {w : World} {b : Nat} {cs : Array Value} {T : TypeId} (h : Blk w b cs T) (o : Nat) (v : Value) : Blk (w.setCell ⟨b, o, none⟩ v) b (cs.setIfInBounds o v) T := by
  unfold Blk at *
  simp [World.setCell, Array.getElem?_modify, h]
theorem Blk.set_other {w : World} {b b' : Nat} {cs : Array Value} {T : TypeId} (h : Blk w b cs T) (hne : b ≠ b') (o : Nat) (v : Value) : Blk (w.setCell ⟨b', o, none⟩ v) b cs T := by
  unfold Blk at *
  rw [Below.heap_setCell _ _ _ _ hne]
  exact h
theorem Blk.alloc {w : World} {b : Nat} {cs : Array Value} {T : TypeId} (h : Blk w b cs T) (o : Obj) : Blk (w.alloc o) b cs T := by
  have := h.lt
  unfold Blk at *
  rw [Below.heap_alloc _ _ _ this]
  exact h
theorem Blk.new (w : World) (cs : Array Value) (T : TypeId) : Blk (w.alloc (.cells cs T)) w.heap.size cs T := by
  unfold Blk
  show (w.heap.push _)[w.heap.size]? = _
  simp
theorem Blk.drew {w : World} {b : Nat} {cs : Array Value} {T : TypeId} (h : Blk w b cs T) : Blk w.drew b cs T := h

/-- What a call that owns the blocks S has done: nothing outside S has turned; every block in which entries lie keeps its shape. -/
structure Fr (S : Nat → Prop) (w w' : World) : Prop where
  os : w'.os = w.os
  tape : w'.tape = w.tape
  output : w'.output = w.output
  size : w.heap.size ≤ w'.heap.size
  keep : ∀ b, b < w.heap.size → ¬ S b → w'.heap[b]? = w.heap[b]?
  shape : ∀ b x, (x.1 = 54 ∨ x.1 = 70) → w.shape? b = some x → w'.shape? b = some x

theorem Fr.refl (S : Nat → Prop) (w : World) : Fr S w w := ⟨rfl, rfl, rfl, Nat.le_refl _, fun _ _ _ => rfl, fun _ _ _ h => h⟩
theorem Fr.trans {S : Nat → Prop} {a b c : World} (h : Fr S a b) (k : Fr S b c) : Fr S a c :=
  ⟨k.os.trans h.os, k.tape.trans h.tape, k.output.trans h.output, Nat.le_trans h.size k.size, fun i hi hs => (k.keep i (Nat.lt_of_lt_of_le hi h.size) hs).trans (h.keep i hi hs), fun i x ht hx => k.shape i x ht (h.shape i x ht hx)⟩
theorem Fr.mono {S S' : Nat → Prop} {w w' : World} (h : Fr S w w') (hs : ∀ b, S b → S' b) : Fr S' w w' := ⟨h.os, h.tape, h.output, h.size, fun b hb hn => h.keep b hb (fun k => hn (hs b k)), h.shape⟩
theorem Fr.drew {S : Nat → Prop} {a w : World} (h : Fr S a w) : Fr S a w.drew := ⟨h.os, h.tape, h.output, h.size, h.keep, h.shape⟩
theorem Fr.alloc {S : Nat → Prop} {a w : World} (h : Fr S a w) (o : Obj) : Fr S a (w.alloc o) := by
  refine h.trans ⟨rfl, rfl, rfl, by simp, fun k hk _ => Below.heap_alloc _ _ _ hk, fun b x _ hx => ?_⟩
  have hb : b < w.heap.size := by
    unfold World.shape? at hx
    split at hx
    · rename_i h; exact (Array.getElem?_eq_some_iff.1 h).1
    · cases hx
  unfold World.shape? at *
  rw [Below.heap_alloc _ _ _ hb]
  exact hx
theorem shape_setCell (w : World) (a : Addr) (u : Value) (b : Nat) : (w.setCell a u).shape? b = w.shape? b := by
  unfold World.shape? World.setCell
  by_cases e : a.block = b
  · subst e
    cases h : w.heap[a.block]? with
    | none => simp [Array.getElem?_modify, h]
    | some o =>
      cases o with
      | cells c t fr =>
        simp [Array.getElem?_modify, h]
        split <;> simp
      | _ => simp [Array.getElem?_modify, h]
  · simp only [Array.getElem?_modify]
    rw [if_neg e]
theorem Fr.setCell {S : Nat → Prop} {a w : World} (h : Fr S a w) {p : Addr} (hp : S p.block) (u : Value) : Fr S a (w.setCell p u) :=
  h.trans ⟨rfl, rfl, rfl, by simp [World.setCell], fun k _ hn => Below.heap_setCell _ _ _ _ (fun e => hn (e ▸ hp)), fun b x _ hx => by rw [shape_setCell]; exact hx⟩
theorem Fr.below {S : Nat → Prop} {w w' : World} (h : Fr S w w') {B : Nat} (hB : B ≤ w.heap.size) (hS : ∀ b, S b → B ≤ b) : Below B w w' :=
  ⟨h.os, h.tape, h.output, h.size, fun k hk => h.keep k (by omega) (fun s => by have := hS k s; omega)⟩
theorem Fr.blk {S : Nat → Prop} {w w' : World} (h : Fr S w w') {b : Nat} {cs : Array Value} {T : TypeId} (hb : Blk w b cs T) (hn : ¬ S b) : Blk w' b cs T := by
  have := hb.lt
  unfold Blk at *
  rw [h.keep b this hn]
  exact hb

/-- At the address a an entry lies. -/
def EntOk (w : World) (a : Addr) : Prop := ∃ e n, (e = 54 ∨ e = 70) ∧ w.shape? a.block = some (e, n) ∧ a.off < n ∧ liesAt Yba.prog Yba.prog.depth e (n / Yba.prog.cellsOf e) a.off 54 1 = true
theorem EntOk.fr {S : Nat → Prop} {w w' : World} (h : Fr S w w') {a : Addr} (k : EntOk w a) : EntOk w' a := by
  obtain ⟨e, n, h0, h1, h2, h3⟩ := k
  exact ⟨e, n, h0, h.shape _ _ h0 h1, h2, h3⟩

/-- A row of n pointers. -/
def ptrs (n : Nat) (f : Nat → Option Addr) : Array Value := Array.ofFn (n := n) fun i => Value.pointer (f i.1)
theorem ptrs_size (n : Nat) (f : Nat → Option Addr) : (ptrs n f).size = n := by simp [ptrs]
theorem ptrs_get (n : Nat) (f : Nat → Option Addr) (i : Nat) (h : i < n) : (ptrs n f)[i]? = some (.pointer (f i)) := by simp [ptrs, h]
theorem ptrs_set (n : Nat) (f : Nat → Option Addr) (i : Nat) (p : Option Addr) : (ptrs n f).setIfInBounds i (.pointer p) = ptrs n (fun j => if j = i then p else f j) := by
  apply Array.ext_getElem?
  intro j
  rw [Array.getElem?_setIfInBounds, ptrs_size]
  by_cases hj : j < n
  · rw [ptrs_get _ _ _ hj, ptrs_get _ _ _ hj]
    by_cases e : j = i
    · subst e; simp [hj]
    · rw [if_neg (fun h => e h.symm), if_neg e]
  · have h1 : (ptrs n f)[j]? = none := Array.getElem?_eq_none (by simp [ptrs]; omega)
    have h2 : (ptrs n (fun j => if j = i then p else f j))[j]? = none := Array.getElem?_eq_none (by simp [ptrs]; omega)
    rw [h1, h2]
    split
    · rw [if_neg (by omega)]
    · rfl
theorem ptrs_congr {n : Nat} {f g : Nat → Option Addr} (h : ∀ i, i < n → f i = g i) : ptrs n f = ptrs n g := by
  apply Array.ext
  · simp [ptrs]
  · intro j h1 h2
    simp only [ptrs, Array.getElem_ofFn]
    rw [h j (by simpa [ptrs] using h1)]

/-- A chunk table, block by block. -/
structure DictAt (w : World) (bd bx ba l : Nat) (tab : Nat → Option Nat) (f : Nat → Option Addr) : Prop where
  d : Blk w bd #[.pointer (some ⟨bx, 0, none⟩), .nilFunc] 34
  x : Blk w bx #[.slice (some ⟨ba, 0, none⟩) l l] 36
  a : Blk w ba (ptrs l fun i => (tab i).map (⟨·, 0, none⟩)) 42
  c : ∀ i c, tab i = some c → Blk w c (ptrs 256 fun j => f (256 * i + j)) 49
  n : ∀ i, tab i = none → ∀ j, j < 256 → f (256 * i + j) = none
  lt : ∀ i, l ≤ i → tab i = none
  inj : ∀ i j c, tab i = some c → tab j = some c → i = j
  ll : l ≤ 131072

/-- A dictionary at block bd, its blocks among S: L: the table's length (none: no table); f: the entry at each number. -/
def Dict (w : World) (bd : Nat) (S : Nat → Prop) (L : Option Nat) (f : Nat → Option Addr) : Prop :=
  S bd ∧ (∀ n a, f n = some a → EntOk w a) ∧
  match L with
  | none => Blk w bd #[.pointer none, .nilFunc] 34 ∧ ∀ n, f n = none
  | some l => ∃ bx ba tab, DictAt w bd bx ba l tab f ∧ S bx ∧ S ba ∧ ∀ i c, tab i = some c → S c

theorem DictAt.fr {S S' : Nat → Prop} {w w' : World} {bd bx ba l : Nat} {tab : Nat → Option Nat} {f : Nat → Option Addr} (h : DictAt w bd bx ba l tab f) (k : Fr S' w w') (hd : S bd) (hx : S bx) (ha : S ba) (hc : ∀ i c, tab i = some c → S c) (hn : ∀ b, S b → ¬ S' b) : DictAt w' bd bx ba l tab f :=
  ⟨k.blk h.d (hn _ hd), k.blk h.x (hn _ hx), k.blk h.a (hn _ ha), fun i c e => k.blk (h.c i c e) (hn _ (hc i c e)), h.n, h.lt, h.inj, h.ll⟩
theorem Dict.fr {S S' : Nat → Prop} {w w' : World} {bd : Nat} {L : Option Nat} {f : Nat → Option Addr} (h : Dict w bd S L f) (k : Fr S' w w') (hn : ∀ b, S b → ¬ S' b) : Dict w' bd S L f := by
  obtain ⟨h1, h2, h3⟩ := h
  refine ⟨h1, fun n a e => (h2 n a e).fr k, ?_⟩
  cases L with
  | none => exact ⟨k.blk h3.1 (hn _ h1), h3.2⟩
  | some l =>
    obtain ⟨bx, ba, tab, g, hx, ha, hc⟩ := h3
    exact ⟨bx, ba, tab, g.fr k h1 hx ha hc hn, hx, ha, hc⟩
theorem Dict.mono {S S' : Nat → Prop} {w : World} {bd : Nat} {L : Option Nat} {f : Nat → Option Addr} (h : Dict w bd S L f) (hs : ∀ b, S b → S' b) : Dict w bd S' L f := by
  obtain ⟨h1, h2, h3⟩ := h
  refine ⟨hs _ h1, h2, ?_⟩
  cases L with
  | none => exact h3
  | some l =>
    obtain ⟨bx, ba, tab, g, hx, ha, hc⟩ := h3
    exact ⟨bx, ba, tab, g, hs _ hx, hs _ ha, fun i c e => hs _ (hc i c e)⟩

/-! ### the conversions -/
theorem cv_nil (s d : TypeId) (w : World) (h : (s = 29 ∧ (d = 39 ∨ d = 25 ∨ d = 44)) ∨ (d = 29 ∧ (s = 39 ∨ s = 25 ∨ s = 44))) : (convert s d (.pointer none)).run Yba.prog w = .ok (.pointer none) w := by
  rcases h with ⟨rfl, rfl | rfl | rfl⟩ | ⟨rfl, rfl | rfl | rfl⟩ <;> kernel_rfl
theorem cv_entry {w : World} {a : Addr} (h : EntOk w a) : (convert 29 44 (.pointer (some a))).run Yba.prog w = .ok (.pointer (some a)) w := by
  obtain ⟨e, n, _, h1, h2, h3⟩ := h
  exact from44 h1 h3
theorem cv_entry' {w : World} {a : Addr} (h : EntOk w a) : (convert 44 29 (.pointer (some a))).run Yba.prog w = .ok (.pointer (some a)) w := by
  obtain ⟨e, n, _, h1, h2, h3⟩ := h
  exact to44 h1 h2
theorem cv_chunk {w : World} {c : Nat} {cs : Array Value} (h : Blk w c cs 49) (hs : cs.size = 256) : (convert 29 39 (.pointer (some ⟨c, 0, none⟩))).run Yba.prog w = .ok (.pointer (some ⟨c, 0, none⟩)) w :=
  from39 (a := ⟨c, 0, none⟩) h.shape (by rw [hs]; kernel_rfl)
theorem cv_chunk' {w : World} {c : Nat} {cs : Array Value} (h : Blk w c cs 49) (hs : cs.size = 256) : (convert 39 29 (.pointer (some ⟨c, 0, none⟩))).run Yba.prog w = .ok (.pointer (some ⟨c, 0, none⟩)) w :=
  to39 (a := ⟨c, 0, none⟩) h.shape (by show 0 < cs.size; omega)
theorem cv_chunks {w : World} {c : Nat} {cs : Array Value} (h : Blk w c cs 36) (hs : cs.size = 1) : (convert 29 25 (.pointer (some ⟨c, 0, none⟩))).run Yba.prog w = .ok (.pointer (some ⟨c, 0, none⟩)) w :=
  from25 (a := ⟨c, 0, none⟩) h.shape (by rw [hs]; kernel_rfl)
theorem cv_chunks' {w : World} {c : Nat} {cs : Array Value} (h : Blk w c cs 36) (hs : cs.size = 1) : (convert 25 29 (.pointer (some ⟨c, 0, none⟩))).run Yba.prog w = .ok (.pointer (some ⟨c, 0, none⟩)) w :=
  to25 (a := ⟨c, 0, none⟩) h.shape (by show 0 < cs.size; omega)
end Go.Proofs.Ybulkefuq
