/-
  The law's first part: a text is laid: any text of at most 2097152 bytes.
-/
import Derived.Test.YbulkefwgNumber
import Derived.Laws.IdiomCopy
import Derived.Laws.MakeOwn
import Derived.Laws.BytesArg
import Derived.ArgAppend
import Derived.Lib.AppendStr
import Derived.Laws.CopyOwn
namespace Go.Proofs.Ybulkefwg
open Go.RowKit

/-- Block b holds just these cells, of type T, none frozen. -/
def Blk (w : World) (b : Nat) (cs : Array Value) (T : TypeId) : Prop := w.heap[b]? = some (.cells cs T (0, 0))
theorem Blk.lt {w : World} {b : Nat} {cs : Array Value} {T : TypeId} (h : Blk w b cs T) : b < w.heap.size := (Array.getElem?_eq_some_iff.1 h).1
theorem Blk.cell {w : World} {b : Nat} {cs : Array Value} {T : TypeId} (h : Blk w b cs T) (o : Nat) : w.cell? ⟨b, o, none⟩ = cs[o]? := by
  unfold Blk at h
  simp [World.cell?, h]
theorem Blk.frozen {w : World} {b : Nat} {cs : Array Value} {T : TypeId} (h : Blk w b cs T) (o : Nat) : w.frozen? ⟨b, o, none⟩ = false := by
  unfold Blk at h
  simp [World.frozen?, h]
theorem Blk.set_same {w : World} {b : Nat} {cs : Array Value} {T : TypeId} (h : Blk w b cs T) (o : Nat) (v : Value) : Blk (w.setCell ⟨b, o, none⟩ v) b (cs.setIfInBounds o v) T := by
  unfold Blk at *
  simp [World.setCell, Array.getElem?_modify, h]
theorem Blk.set_other {w : World} {b b' : Nat} {cs : Array Value} {T : TypeId} (h : Blk w b cs T) (hne : b ≠ b') (o : Nat) (v : Value) : Blk (w.setCell ⟨b', o, none⟩ v) b cs T := by
  unfold Blk at *
  rw [Below.heap_setCell _ _ _ _ hne]
  exact h
theorem Blk.alloc {w : World} {b : Nat} {cs : Array Value} {T : TypeId} (h : Blk w b cs T) (o : Obj) : Blk (w.alloc o) b cs T := by
  have := h.lt
  unfold Blk at *
  rw [Below.heap_alloc _ _ _ this]
  exact h
theorem Blk.new (w : World) (cs : Array Value) (T : TypeId) : Blk (w.alloc (.cells cs T)) w.heap.size cs T := by
  unfold Blk
  show (w.heap.push _)[w.heap.size]? = _
  simp

/-- What stands in a block behind a row of stores. -/
theorem Blk.setCells : ∀ (vs : List Value) (o : Nat) {w : World} {b : Nat} {cs : Array Value} {T : TypeId}, Blk w b cs T → ∃ cs', Blk (w.setCells b o vs) b cs' T ∧ cs'.size = cs.size ∧ (∀ j, j < o → cs'[j]? = cs[j]?) ∧ (∀ j, j < vs.length → o + j < cs.size → cs'[o + j]? = vs[j]?) ∧ (∀ j, o + vs.length ≤ j → cs'[j]? = cs[j]?)
  | [], o, w, b, cs, T, h => ⟨cs, h, rfl, fun _ _ => rfl, fun j hj => by simp at hj, fun _ _ => rfl⟩
  | v :: r, o, w, b, cs, T, h => by
    obtain ⟨cs', h1, h2, h3, h4, h5⟩ := Blk.setCells r (o + 1) (h.set_same o v)
    refine ⟨cs', h1, by rw [h2]; simp, fun j hj => ?_, fun j hj hl => ?_, fun j hj => ?_⟩
    · rw [h3 j (by omega), Array.getElem?_setIfInBounds_ne (by omega)]
    · cases j with
      | zero =>
        rw [Nat.add_zero, h3 o (by omega), Array.getElem?_setIfInBounds_self]
        simp at hl
        simp [hl]
      | succ j =>
        rw [show o + (j + 1) = o + 1 + j by omega]
        rw [h4 j (by simp at hj; omega) (by simp; omega)]
        simp
    · rw [h5 j (by simp at hj; omega), Array.getElem?_setIfInBounds_ne (by simp at hj; omega)]
theorem below_setCells {B b : Nat} (hb : B ≤ b) : ∀ (vs : List Value) (o : Nat) {a w : World}, Below B a w → Below B a (w.setCells b o vs)
  | [], _, _, _, h => h
  | v :: r, o, _, _, h => below_setCells hb r (o + 1) (h.setCell (p := ⟨b, o, none⟩) hb v)
theorem Blk.below {B : Nat} {w w' : World} {b : Nat} {cs : Array Value} {T : TypeId} (h : Blk w b cs T) (k : Below B w w') (hb : b < B) : Blk w' b cs T := by
  unfold Blk at *
  rw [k.block b hb]
  exact h

theorem info5 : ∃ i : TypeInfo, Yba.prog.info? 5 = some i ∧ i.size = 1 ∧ i.bytes = 1 ∧ i.zero = some (.int .u8 0) := by
  have h : (Yba.prog.info? 5).map (fun i : TypeInfo => (i.size, i.bytes, i.zero)) = some (1, 1, some (.int .u8 0)) := by kernel_rfl
  obtain ⟨i, hi, e⟩ := Option.map_eq_some_iff.1 h
  simp only [Prod.mk.injEq] at e
  exact ⟨i, hi, e.1, e.2.1, e.2.2⟩

/-- Block b holds cap bytes. -/
def U8 (w : World) (b cap : Nat) : Prop := ∃ cs : Array Value, Blk w b cs 5 ∧ cs.size = cap ∧ ∀ (i : Nat) (u : Value), cs[i]? = some u → ∃ z : Int, 0 ≤ z ∧ z ≤ 255 ∧ u = .int .u8 z

theorem make22 (p q : Nat) (hp : p ≤ 1048576) (hq : q ≤ 1048576) (w : World) :
    ∃ w1, (Instr.makeSlice 22 (.int .i64 0) (.int .i64 ((p : Int) + (q : Int)))).run Yba.prog w = .ok (.slice (some ⟨w.heap.size, 0, none⟩) 0 (p + q)) w1 ∧ U8 w1 w.heap.size (p + q) ∧ Below w.heap.size w w1 := by
  obtain ⟨i, hi, hs, hb, hz⟩ := info5
  have h := run_make (P := Yba.prog) w 22 5 i _ Yba.underlying22 hi hz .i64 .i64 0 ((p + q : Nat) : Int) (by omega) (by omega) (by rw [hb]; omega) (by omega)
  rw [show ((p + q : Nat) : Int) = (p : Int) + (q : Int) by omega] at h
  rw [h, hs]
  refine ⟨w.alloc (.cells (madeCells #[.int .u8 0] ((p + q) * 1)) 5), ?_, ⟨madeCells #[.int .u8 0] ((p + q) * 1), ?_, by rw [size_madeCells]; omega, fun j u hu => ?_⟩, ?_⟩
  · simp only [show ((p : Int) + (q : Int)).toNat = p + q by omega]
    rfl
  · exact Blk.new _ _ _
  · have := (Array.getElem?_eq_some_iff.1 hu).1
    rw [size_madeCells] at this
    refine ⟨0, by omega, by omega, ?_⟩
    simp [madeCells, Nat.mod_one] at hu
    exact hu.2.symm
  · exact (Below.refl _ w).alloc (Nat.le_refl _) _

theorem U8.push {w : World} {b cap k : Nat} (h : U8 w b cap) (hk : k < cap) (v : Int) (h0 : 0 ≤ v) (h1 : v ≤ 255) :
    ∃ w2, (∀ ty, (Builtin.append_ #[22, 22] ty #[.slice (some ⟨b, 0, none⟩) k cap, .slice (some ⟨w.heap.size, 0, none⟩) 1 1]).run Yba.prog (w.alloc (.cells #[.int .u8 v] 5)) = .ok (.slice (some ⟨b, 0, none⟩) (k + 1) cap) w2) ∧ U8 w2 b cap ∧ Below b w w2 := by
  obtain ⟨cs, hb, hz, hu⟩ := h
  obtain ⟨i, hi, hs, -, -⟩ := info5
  have hB := hb.alloc (.cells #[.int .u8 v] 5)
  have hN := Blk.new w #[.int .u8 v] 5
  have hlt := hb.lt
  refine ⟨(w.alloc (.cells #[.int .u8 v] 5)).setCells b k [.int .u8 v], fun ty => ?_, ?_, below_setCells (Nat.le_refl _) _ _ ((Below.refl _ w).alloc (by omega) _)⟩
  · have := run_append_room_cells (P := Yba.prog) (w.alloc (.cells #[.int .u8 v] 5)) 22 ty 5 i Yba.underlying22 hi b 0 k cap ⟨w.heap.size, 0, none⟩ 1 1 [.int .u8 v] (by simp [hs])
      (fun j u hj => by
        cases j with
        | zero => rw [Addr.add_lit, hN.cell]; simpa using hj
        | succ j => simp at hj)
      (fun u hu => by simp at hu; subst hu; rfl) (by omega) (fun j hj => by rw [hB.cell, hs]; simp at hj; simp; omega) (fun j hj => hB.frozen _)
    rw [hs] at this
    simpa using this
  · obtain ⟨cs', k1, k2, k3, k4, k5⟩ := Blk.setCells [.int .u8 v] k hB
    refine ⟨cs', k1, by omega, fun j u hj => ?_⟩
    rcases Nat.lt_trichotomy j k with c | c | c
    · rw [k3 j c] at hj; exact hu j u hj
    · subst c
      have := k4 0 (by simp) (by simpa [hz] using hk)
      rw [Nat.add_zero, hj] at this
      simp at this
      exact ⟨v, h0, h1, this⟩
    · rw [k5 j (by simp; omega)] at hj; exact hu j u hj

theorem U8.more {w : World} {b k : Nat} (t : ByteArray) (h : U8 w b (k + t.size)) :
    ∃ w2, (∀ ty, (Builtin.append_ #[22, 9] ty #[.slice (some ⟨b, 0, none⟩) k (k + t.size), .string t]).run Yba.prog w = .ok (.slice (some ⟨b, 0, none⟩) (k + t.size) (k + t.size)) w2) ∧ U8 w2 b (k + t.size) ∧ Below b w w2 := by
  obtain ⟨cs, hb, hz, hu⟩ := h
  obtain ⟨i, hi, hs, -, -⟩ := info5
  have hlt := hb.lt
  refine ⟨_, fun ty => Lib.run_append_room_string w 22 9 ty 5 i Yba.underlying22 Yba.underlying9 hi hs b k (k + t.size) cs hb t (Nat.le_refl _) (by omega), ?_, ?_⟩
  · refine ⟨_, setRow_heap w b cs _ 5 (0, 0) hb, ?_, fun j u hj => ?_⟩
    · simp [Lib.strCells_length]
      omega
    · have hm := List.mem_of_getElem? (by simpa using hj : (cs.toList.take k ++ Lib.strCells t ++ cs.toList.drop (k + t.size))[j]? = some u)
      have hcs : ∀ u ∈ cs.toList, ∃ z : Int, 0 ≤ z ∧ z ≤ 255 ∧ u = .int .u8 z := fun u hm => by
        obtain ⟨m, hlt', e⟩ := List.getElem_of_mem hm
        exact hu m u (by rw [← Array.getElem?_toList, List.getElem?_eq_getElem hlt']; exact congrArg some e)
      rcases List.mem_append.1 hm with hm | hm
      · rcases List.mem_append.1 hm with hm | hm
        · exact hcs u (List.mem_of_mem_take hm)
        · obtain ⟨c, _, rfl⟩ := List.mem_map.1 hm
          have := c.toNat_lt
          exact ⟨_, by omega, by omega, rfl⟩
      · exact hcs u (List.mem_of_mem_drop hm)
  · exact below_setRow (Below.refl _ w) (Nat.le_refl _) _

def num (u : Value) : Int := match u with
  | .int _ z => z
  | _ => 0
theorem U8.text {w : World} {b n : Nat} (h : U8 w b n) : ∃ s : ByteArray, s.size = n ∧ (convert 22 9 (.slice (some ⟨b, 0, none⟩) n n)).run Yba.prog w = .ok (.string s) w := by
  obtain ⟨cs, hb, hz, hu⟩ := h
  refine ⟨strOfNums (cs.toList.map num), by rw [strOfNums_size]; simpa using hz, ?_⟩
  refine run_convert_bytes_arg w 22 5 Yba.underlying22 Yba.underlying5 b 0 n n (cs.toList.map num) (by simpa using hz) (fun i hi => ?_) 9 Yba.underlying9
  have hlt : i < cs.size := by omega
  obtain ⟨z, _, _, e⟩ := hu i cs[i] (Array.getElem?_eq_getElem hlt)
  rw [Nat.zero_add, hb.cell, Array.getElem?_eq_getElem hlt, e]
  simp [List.getD_eq_getElem?_getD, hlt, e, num]
end Go.Proofs.Ybulkefwg
