/-
  The entries to be kept, as the law lays them. Plain.
-/
import Derived.Test.YbulkefuqOth
namespace Go.Proofs.Ybulkefuq
open Go.RowKit Go.Maps

/-- the cells of n fresh 'numbered' -/
def num0 (n : Nat) : Array Value := madeCells #[.int .u64 0, .slice none 0 0, .slice none 0 0, .bool false] (n * 4)
theorem num0_size (n : Nat) : (num0 n).size = n * 4 := size_madeCells _ _

theorem make68 (n : Nat) (h : n ≤ 1000000) (w : World) :
    (Instr.makeSlice 68 (.int .i64 n) (.int .i64 n)).run Yba.prog w = .ok (.slice (some ⟨w.heap.size, 0, none⟩) n n) (w.alloc (.cells (num0 n) 70)) := by
  have hi : (Yba.prog.info? 70).map (fun i => (i.zero, i.size, i.bytes)) = some (some (.agg #[.int .u64 0, .slice none 0 0, .slice none 0 0, .bool false]), 4, 64) := by kernel_rfl
  obtain ⟨i, hi, hzz⟩ := Option.map_eq_some_iff.1 hi
  simp only [Prod.mk.injEq] at hzz
  obtain ⟨hz, hs, hb⟩ := hzz
  have := run_make (P := Yba.prog) w 68 70 i _ Yba.underlying68 hi hz .i64 .i64 n n (by omega) (Int.le_refl _) (by rw [hb]; omega) (by omega)
  rw [this, hs]
  simp only [Int.toNat_natCast]
  rfl

/-- j of the n entries are laid: their numbers g, their texts in the blocks tb. -/
structure ReadAt (wl wr : World) (rb n : Nat) (g : Nat → Nat) (j : Nat) (tb : Nat → Nat) : Prop where
  blk : ∃ cs, Blk wr rb cs 70 ∧ cs.size = n * 4 ∧ ∀ i, i < j → cs[i * 4]? = some (.int .u64 (g i)) ∧ cs[i * 4 + 1 + 1]? = some (.slice (some ⟨tb i, 0, none⟩) 2 2)
  txt : ∀ i, i < j → Blk wr (tb i) #[.int .u8 ((i : Int) % 256), .int .u8 1] 5 ∧ wl.heap.size ≤ tb i
  rl : wl.heap.size ≤ rb
  fr : Fr (fun b => wl.heap.size ≤ b) wl wr

theorem ReadAt.snoc {wl wr w' : World} {rb n : Nat} {g : Nat → Nat} {j : Nat} {tb : Nat → Nat} (h : ReadAt wl wr rb n g j tb) (hj : j < n)
    (hw : w' = ((wr.setCell ⟨rb, j * 4, none⟩ (.int .u64 (g j))).alloc (.cells #[.int .u8 ((j : Int) % 256), .int .u8 1] 5)).setCell ⟨rb, j * 4 + 1 + 1, none⟩ (.slice (some ⟨wr.heap.size, 0, none⟩) 2 2)) :
    ReadAt wl w' rb n g (j + 1) (updAt tb j wr.heap.size) := by
  obtain ⟨cs, hb, hs, hc⟩ := h.blk
  have hlt := hb.lt
  have hfr : Fr (fun b => b = rb) wr w' := by rw [hw]; exact (((Fr.refl (fun b => b = rb) wr).setCell (p := ⟨rb, j * 4, none⟩) rfl _).alloc _).setCell (p := ⟨rb, j * 4 + 1 + 1, none⟩) rfl _
  refine ⟨⟨(cs.setIfInBounds (j * 4) (.int .u64 (g j))).setIfInBounds (j * 4 + 1 + 1) (.slice (some ⟨wr.heap.size, 0, none⟩) 2 2), ?_, by simp [hs], fun i hi => ?_⟩, fun i hi => ?_, h.rl, h.fr.trans (hfr.mono fun b hb => by subst hb; exact h.rl)⟩
  · rw [hw]
    exact ((hb.set_same _ _).alloc _).set_same _ _
  · unfold updAt
    by_cases e : i = j
    · subst e
      rw [if_pos rfl]
      simp only [Array.getElem?_setIfInBounds, Array.size_setIfInBounds]
      constructor
      · rw [if_neg (by omega), if_pos trivial, if_pos (by omega)]
      · rw [if_pos trivial, if_pos (by omega)]
    · rw [if_neg e]
      have := hc i (by omega)
      simp only [Array.getElem?_setIfInBounds]
      rw [if_neg (by omega), if_neg (by omega), if_neg (by omega), if_neg (by omega)]
      exact this
  · unfold updAt
    by_cases e : i = j
    · subst e
      rw [if_pos rfl]
      refine ⟨?_, h.fr.size⟩
      rw [hw]
      have := Blk.new (wr.setCell ⟨rb, i * 4, none⟩ (.int .u64 (g i))) #[.int .u8 ((i : Int) % 256), .int .u8 1] 5
      rw [show (wr.setCell ⟨rb, i * 4, none⟩ (.int .u64 (g i))).heap.size = wr.heap.size from by simp [World.setCell]] at this
      exact this.set_other (by omega) _ _
    · rw [if_neg e]
      have := h.txt i (by omega)
      exact ⟨hfr.blk this.1 (this.1.ne hb (by decide)), this.2⟩
end Go.Proofs.Ybulkefuq
