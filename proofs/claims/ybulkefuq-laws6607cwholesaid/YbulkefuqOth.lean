/-
  The other dictionaries of the cache. Plain.
-/
import Derived.Test.YbulkefuqPre2
namespace Go.Proofs.Ybulkefuq
open Go.RowKit Go.Maps

theorem oth_made {w : World} {b X A C : Nat} {E : Addr} (hd : Blk w b #[.pointer (some ⟨X, 0, none⟩), .nilFunc] 34) (hx : Blk w X #[.slice (some ⟨A, 0, none⟩) 1 1] 36)
    (ha : Blk w A ((ptrs 1 fun _ => none).setIfInBounds 0 (.pointer (some ⟨C, 0, none⟩))) 42) (hc : Blk w C (chunk0.setIfInBounds 0 (.pointer (some E))) 49) :
    DictAt w b X A 1 (fun i => if i = 0 then some C else none) (fun n => if n = 0 then some E else none) := by
  unfold chunk0 at hc
  rw [ptrs_set] at ha hc
  refine ⟨hd, hx, ?_, fun i c e => ?_, fun i e j _ => ?_, fun i hi => if_neg (by omega), fun i j c e1 e2 => ?_, by omega⟩
  · rw [ptrs_congr (g := fun j => if j = 0 then some ⟨C, 0, none⟩ else none) fun j _ => by by_cases e : j = 0 <;> simp [e]]
    exact ha
  · by_cases e0 : i = 0
    · subst e0
      simp at e
      subst e
      rw [ptrs_congr (g := fun j => if j = 0 then some E else none) fun j _ => by simp]
      exact hc
    · rw [if_neg e0] at e
      cases e
  · by_cases e0 : i = 0
    · subst e0; simp at e
    · rw [if_neg (by omega)]
  · by_cases e0 : i = 0
    · by_cases e1' : j = 0
      · omega
      · rw [if_neg e1'] at e2; cases e2
    · rw [if_neg e0] at e1; cases e1

theorem make67 (n : Nat) (h : n ≤ 1000000) (w : World) :
    (Instr.makeSlice 67 (.int .i64 n) (.int .i64 n)).run Yba.prog w = .ok (.slice (some ⟨w.heap.size, 0, none⟩) n n) (w.alloc (.cells (ptrs n fun _ => none) 24)) := by
  have hi : (Yba.prog.info? 24).map (fun i => (i.zero, i.size, i.bytes)) = some (some (.pointer none), 1, 8) := by kernel_rfl
  obtain ⟨i, hi, hzz⟩ := Option.map_eq_some_iff.1 hi
  simp only [Prod.mk.injEq] at hzz
  obtain ⟨hz, hs, hb⟩ := hzz
  have := run_make (P := Yba.prog) w 67 24 i _ Yba.underlying67 hi hz .i64 .i64 n n (by omega) (Int.le_refl _) (by rw [hb]; omega) (by omega)
  rw [this, hs]
  simp only [Int.toNat_natCast, Nat.mul_one]
  rw [← made_ptrs]
  rfl
theorem make35 (n : Nat) (h : n ≤ 1000000) (w : World) :
    (Instr.makeSlice 35 (.int .i64 n) (.int .i64 n)).run Yba.prog w = .ok (.slice (some ⟨w.heap.size, 0, none⟩) n n) (w.alloc (.cells (ptrs n fun _ => none) 44)) := by
  have hi : (Yba.prog.info? 44).map (fun i => (i.zero, i.size, i.bytes)) = some (some (.pointer none), 1, 8) := by kernel_rfl
  obtain ⟨i, hi, hzz⟩ := Option.map_eq_some_iff.1 hi
  simp only [Prod.mk.injEq] at hzz
  obtain ⟨hz, hs, hb⟩ := hzz
  have := run_make (P := Yba.prog) w 35 44 i _ Yba.underlying35 hi hz .i64 .i64 n n (by omega) (Int.le_refl _) (by rw [hb]; omega) (by omega)
  rw [this, hs]
  simp only [Int.toNat_natCast, Nat.mul_one]
  rw [← made_ptrs]
  rfl

/-- The cache's map: d at 0 (if it is in), the others from 1 on. -/
def othM (dOpt : Option Nat) (ob : Nat → Nat) (j : Nat) : Nat → Option Nat := fun k => if k = 0 then dOpt else if k ≤ j then some (ob (k - 1)) else none

theorem othM_snoc (dOpt : Option Nat) (ob : Nat → Nat) (j b : Nat) : (fun k => if k = j + 1 then some b else othM dOpt ob j k) = othM dOpt (updAt ob j b) (j + 1) := by
  funext k
  unfold othM updAt
  by_cases h0 : k = 0
  · subst h0; simp
  · by_cases h1 : k = j + 1
    · subst h1; simp
    · rw [if_neg h1, if_neg h0, if_neg h0]
      by_cases h2 : k ≤ j
      · rw [if_pos h2, if_pos (by omega), if_neg (by omega)]
      · rw [if_neg h2, if_neg (by omega)]

/-- What the law has laid of the other dictionaries, j of them. -/
structure OthAt (wl wr : World) (B bm be bo bE m0 : Nat) (b0 : Int) (dOpt : Option Nat) (j : Nat) (ob : Nat → Nat) (oe : Nat → Addr) : Prop where
  ec : Blk wr be (ecCells 0 bm b0) 66
  map : ∃ D, wr.ownsMap Yba.prog 38 ptrElem bm (j + 1) D ∧ MapIs D (othM dOpt ob j) ∧ Maps.size D = j + (if dOpt.isSome then 1 else 0)
  o : Blk wr bo (ptrs m0 fun i => if i < j then some ⟨ob i, 0, none⟩ else none) 24
  oE : Blk wr bE (ptrs m0 fun i => if i < j then some (oe i) else none) 44
  dict : ∀ i, i < j → Dict wr (ob i) (fun b => B ≤ b ∧ b < wr.heap.size) (some 1) (fun n => if n = 0 then some (oe i) else none)
  le : bm < B ∧ be < B ∧ bo < B ∧ bE < B ∧ B ≤ wr.heap.size
  fr : Fr (fun b => wl.heap.size ≤ b) wl wr

theorem own_map_fr {S : Nat → Prop} {w w' : World} {bm n : Nat} {D : DataW Unit} (h : w.ownsMap Yba.prog 38 ptrElem bm n D) (k : Fr S w w') (hn : ¬ S bm) : w'.ownsMap Yba.prog 38 ptrElem bm n D := by
  have hlt := h.lt
  obtain ⟨es, clock, hb, F, hs, hD⟩ := h
  exact ⟨es, clock, (k.keep bm hlt hn).trans hb, F, hs, hD⟩

theorem own_map_ne {w : World} {bm n b : Nat} {D : DataW Unit} {cs : Array Value} {T : TypeId} (h : w.ownsMap Yba.prog 38 ptrElem bm n D) (hb : Blk w b cs T) : bm ≠ b := fun e => by
  subst e
  obtain ⟨es, clock, hm, _⟩ := h
  unfold Blk at hb
  rw [hb] at hm
  cases hm

/-- while new blocks are made and only new ones are written -/
theorem OthAt.fr' {wl wr w' : World} {B bm be bo bE m0 : Nat} {b0 : Int} {dOpt : Option Nat} {j : Nat} {ob : Nat → Nat} {oe : Nat → Addr} (h : OthAt wl wr B bm be bo bE m0 b0 dOpt j ob oe) (k : Fr (fun b => wr.heap.size ≤ b) wr w') : OthAt wl w' B bm be bo bE m0 b0 dOpt j ob oe := by
  obtain ⟨D, hD1, hD2, hD3⟩ := h.map
  have hbm := hD1.lt
  have hec := h.ec.lt
  have ho := h.o.lt
  have hoE := h.oE.lt
  refine ⟨k.blk h.ec (by omega), ⟨D, own_map_fr hD1 k (by omega), hD2, hD3⟩, k.blk h.o (by omega), k.blk h.oE (by omega), fun i hi => ?_, ⟨h.le.1, h.le.2.1, h.le.2.2.1, h.le.2.2.2.1, Nat.le_trans h.le.2.2.2.2 k.size⟩, ?_⟩
  · exact ((h.dict i hi).fr k (fun b hb => by omega)).mono fun b hb => ⟨hb.1, Nat.lt_of_lt_of_le hb.2 k.size⟩
  · exact h.fr.trans (k.mono fun b hb => Nat.le_trans h.fr.size hb)

/-- the pointer stored at its place in 'oth', in 'othE'; the map's entry -/
theorem OthAt.snoc {wl wr w2 w3 : World} {B bm be bo bE m0 : Nat} {b0 : Int} {dOpt : Option Nat} {j : Nat} {ob : Nat → Nat} {oe : Nat → Addr} (h : OthAt wl wr B bm be bo bE m0 b0 dOpt j ob oe) (hj : j < m0) (hml : wl.heap.size ≤ bm) (hol : wl.heap.size ≤ bo) (hEl : wl.heap.size ≤ bE)
    {b : Nat} {E : Addr} (hd : Dict wr b (fun b => B ≤ b ∧ b < wr.heap.size) (some 1) (fun n => if n = 0 then some E else none))
    (h2 : w2 = (wr.setCell ⟨bo, j, none⟩ (.pointer (some ⟨b, 0, none⟩))).setCell ⟨bE, j, none⟩ (.pointer (some E)))
    {D3 : DataW Unit} (h3 : w3.ownsMap Yba.prog 38 ptrElem bm (j + 1 + 1) D3) (h3M : MapIs D3 (othM dOpt (updAt ob j b) (j + 1))) (h3s : Maps.size D3 = (j + 1) + (if dOpt.isSome then 1 else 0)) (hg : w2.grownBy w3 (some bm)) :
    OthAt wl w3 B bm be bo bE m0 b0 dOpt (j + 1) (updAt ob j b) (updAt oe j E) := by
  obtain ⟨D, hD1, _, _⟩ := h.map
  have n1 := own_map_ne hD1 h.ec
  have n2 := own_map_ne hD1 h.o
  have n3 := own_map_ne hD1 h.oE
  have f12 : Fr (fun c => c = bo ∨ c = bE) wr w2 := by rw [h2]; exact ((Fr.refl (fun c => c = bo ∨ c = bE) wr).setCell (p := ⟨bo, j, none⟩) (Or.inl rfl) _).setCell (p := ⟨bE, j, none⟩) (Or.inr rfl) _
  have hsm : w2.shape? bm = none := by
    rw [h2, shape_setCell, shape_setCell]
    obtain ⟨es, clock, hm, _⟩ := hD1
    simp [World.shape?, hm]
  have f23 : Fr (fun c => some bm = some c) w2 w3 := Fr.of_grown hg (fun r x e _ hx => by cases e; rw [hsm] at hx; cases hx)
  have hoE : bo ≠ bE := h.o.ne h.oE (by decide)
  have ho2 : Blk w2 bo ((ptrs m0 fun i => if i < j then some ⟨ob i, 0, none⟩ else none).setIfInBounds j (.pointer (some ⟨b, 0, none⟩))) 24 := by rw [h2]; exact (h.o.set_same _ _).set_other hoE _ _
  have hE2 : Blk w2 bE ((ptrs m0 fun i => if i < j then some (oe i) else none).setIfInBounds j (.pointer (some E))) 44 := by rw [h2]; exact (h.oE.set_other (Ne.symm hoE) _ _).set_same _ _
  rw [ptrs_set] at ho2 hE2
  have hall : Fr (fun c => c = bo ∨ c = bE ∨ c = bm) wr w3 := (f12.mono fun c hc => by rcases hc with hc | hc; exact Or.inl hc; exact Or.inr (Or.inl hc)).trans (f23.mono fun c hc => by cases hc; exact Or.inr (Or.inr rfl))
  obtain ⟨l1, l2, l3, l4, l5⟩ := h.le
  have hdis : ∀ c, (B ≤ c ∧ c < wr.heap.size) → ¬ (c = bo ∨ c = bE ∨ c = bm) := fun c hc => by omega
  refine ⟨hall.blk h.ec ?_, ⟨D3, h3, h3M, h3s⟩, ?_, ?_, fun i hi => ?_, ⟨l1, l2, l3, l4, Nat.le_trans l5 hall.size⟩, ?_⟩
  · rintro (e | e | e)
    · exact h.ec.ne h.o (by decide) e
    · exact h.ec.ne h.oE (by decide) e
    · exact n1 e.symm
  · have := f23.blk ho2 (fun e => n2 (Option.some.inj e))
    rw [ptrs_congr (g := fun i => if i = j then some ⟨b, 0, none⟩ else if i < j then some ⟨ob i, 0, none⟩ else none) fun i _ => ?_]
    · exact this
    · unfold updAt
      by_cases e : i = j
      · subst e; simp
      · rw [if_neg e, if_neg e]
        by_cases e' : i < j
        · rw [if_pos e', if_pos (by omega)]
        · rw [if_neg e', if_neg (by omega)]
  · have := f23.blk hE2 (fun e => n3 (Option.some.inj e))
    rw [ptrs_congr (g := fun i => if i = j then some E else if i < j then some (oe i) else none) fun i _ => ?_]
    · exact this
    · unfold updAt
      by_cases e : i = j
      · subst e; simp
      · rw [if_neg e, if_neg e]
        by_cases e' : i < j
        · rw [if_pos e', if_pos (by omega)]
        · rw [if_neg e', if_neg (by omega)]
  · unfold updAt
    by_cases e : i = j
    · rw [if_pos e, if_pos e]
      exact (hd.fr hall hdis).mono fun c hc => ⟨hc.1, Nat.lt_of_lt_of_le hc.2 hall.size⟩
    · rw [if_neg e, if_neg e]
      exact ((h.dict i (by omega)).fr hall hdis).mono fun c hc => ⟨hc.1, Nat.lt_of_lt_of_le hc.2 hall.size⟩
  · exact h.fr.trans (hall.mono fun c hc => by omega)

/-- the six blocks of a new dictionary, as the law lays them -/
def six (w : World) : World :=
  (((((w.alloc (.cells #[.pointer none, .nilFunc] 34)).alloc (.cells (ptrs 1 fun _ => none) 42)).alloc (.cells #[.slice (some ⟨w.heap.size + 1, 0, none⟩) 1 1] 36)).alloc (.cells chunk0 49)).alloc (.cells #[.int .u8 9] 5)).alloc
    (.cells #[.slice none 0 0, .slice (some ⟨w.heap.size + 1 + 1 + 1 + 1, 0, none⟩) 1 1, .bool false] 54)

theorem six_facts (w : World) : Blk (six w) w.heap.size #[.pointer none, .nilFunc] 34 ∧ Blk (six w) (w.heap.size + 1) (ptrs 1 fun _ => none) 42 ∧ Blk (six w) (w.heap.size + 1 + 1) #[.slice (some ⟨w.heap.size + 1, 0, none⟩) 1 1] 36 ∧
    Blk (six w) (w.heap.size + 1 + 1 + 1) chunk0 49 ∧ EntOk (six w) ⟨w.heap.size + 1 + 1 + 1 + 1 + 1, 0, none⟩ ∧ Fr (fun b => w.heap.size ≤ b) w (six w) ∧ (six w).heap.size = w.heap.size + 6 := by
  have e1 : (w.alloc (.cells #[.pointer none, .nilFunc] 34)).heap.size = w.heap.size + 1 := by simp
  have e2 : ((w.alloc (.cells #[.pointer none, .nilFunc] 34)).alloc (.cells (ptrs 1 fun _ => none) 42)).heap.size = w.heap.size + 1 + 1 := by simp
  have e3 : (((w.alloc (.cells #[.pointer none, .nilFunc] 34)).alloc (.cells (ptrs 1 fun _ => none) 42)).alloc (.cells #[.slice (some ⟨w.heap.size + 1, 0, none⟩) 1 1] 36)).heap.size = w.heap.size + 1 + 1 + 1 := by simp
  have e5 : (((((w.alloc (.cells #[.pointer none, .nilFunc] 34)).alloc (.cells (ptrs 1 fun _ => none) 42)).alloc (.cells #[.slice (some ⟨w.heap.size + 1, 0, none⟩) 1 1] 36)).alloc (.cells chunk0 49)).alloc (.cells #[.int .u8 9] 5)).heap.size = w.heap.size + 1 + 1 + 1 + 1 + 1 := by simp
  refine ⟨?_, ?_, ?_, ?_, ?_, ?_, ?_⟩
  · exact ((((((Blk.new w _ 34).alloc _).alloc _).alloc _).alloc _).alloc _)
  · have := Blk.new (w.alloc (.cells #[.pointer none, .nilFunc] 34)) (ptrs 1 fun _ => none) 42
    rw [e1] at this
    exact (((this.alloc _).alloc _).alloc _).alloc _
  · have := Blk.new ((w.alloc (.cells #[.pointer none, .nilFunc] 34)).alloc (.cells (ptrs 1 fun _ => none) 42)) #[.slice (some ⟨w.heap.size + 1, 0, none⟩) 1 1] 36
    rw [e2] at this
    exact ((this.alloc _).alloc _).alloc _
  · have := Blk.new (((w.alloc (.cells #[.pointer none, .nilFunc] 34)).alloc (.cells (ptrs 1 fun _ => none) 42)).alloc (.cells #[.slice (some ⟨w.heap.size + 1, 0, none⟩) 1 1] 36)) chunk0 49
    rw [e3] at this
    exact (this.alloc _).alloc _
  · have := Blk.new (((((w.alloc (.cells #[.pointer none, .nilFunc] 34)).alloc (.cells (ptrs 1 fun _ => none) 42)).alloc (.cells #[.slice (some ⟨w.heap.size + 1, 0, none⟩) 1 1] 36)).alloc (.cells chunk0 49)).alloc (.cells #[.int .u8 9] 5)) #[.slice none 0 0, .slice (some ⟨w.heap.size + 1 + 1 + 1 + 1, 0, none⟩) 1 1, .bool false] 54
    rw [e5] at this
    exact entOk_new this rfl
  · exact ((((((Fr.refl _ w).alloc _).alloc _).alloc _).alloc _).alloc _).alloc _
  · simp [six]

/-- .. and the three stores that link them -/
theorem six_linked (w w3 : World) (h3 : w3 = (((six w).setCell ⟨w.heap.size + 1 + 1 + 1, 0, none⟩ (.pointer (some ⟨w.heap.size + 1 + 1 + 1 + 1 + 1, 0, none⟩))).setCell ⟨w.heap.size + 1, 0, none⟩ (.pointer (some ⟨w.heap.size + 1 + 1 + 1, 0, none⟩))).setCell ⟨w.heap.size, 0, none⟩ (.pointer (some ⟨w.heap.size + 1 + 1, 0, none⟩)))
    (B : Nat) (hB : B ≤ w.heap.size) :
    Dict w3 w.heap.size (fun b => B ≤ b ∧ b < w3.heap.size) (some 1) (fun n => if n = 0 then some ⟨w.heap.size + 1 + 1 + 1 + 1 + 1, 0, none⟩ else none) ∧ Fr (fun b => w.heap.size ≤ b) w w3 := by
  obtain ⟨b1, b2, b3, b4, b5, b6, b7⟩ := six_facts w
  have hfr : Fr (fun b => w.heap.size ≤ b) (six w) w3 := by
    rw [h3]
    exact (((Fr.refl (fun b => w.heap.size ≤ b) (six w)).setCell (p := ⟨w.heap.size + 1 + 1 + 1, 0, none⟩) (by show w.heap.size ≤ w.heap.size + 1 + 1 + 1; omega) _).setCell (p := ⟨w.heap.size + 1, 0, none⟩) (by show w.heap.size ≤ w.heap.size + 1; omega) _).setCell (p := ⟨w.heap.size, 0, none⟩) (Nat.le_refl _) _
  have hs : w3.heap.size = w.heap.size + 6 := by rw [h3, ← b7]; simp [World.setCell]
  refine ⟨⟨⟨hB, by omega⟩, fun n a hn => ?_, w.heap.size + 1 + 1, w.heap.size + 1, _, oth_made (C := w.heap.size + 1 + 1 + 1) (E := ⟨w.heap.size + 1 + 1 + 1 + 1 + 1, 0, none⟩) ?_ ?_ ?_ ?_, ⟨by omega, by omega⟩, ⟨by omega, by omega⟩, fun i c hi => ?_⟩, b6.trans hfr⟩
  · dsimp only at hn
    by_cases e : n = 0
    · rw [if_pos e] at hn
      cases hn
      exact b5.fr hfr
    · rw [if_neg e] at hn
      cases hn
  · rw [h3]
    exact ((b1.set_other (by omega) _ _).set_other (by omega) _ _).set_same _ _
  · rw [h3]
    exact ((b3.set_other (by omega) _ _).set_other (by omega) _ _).set_other (by omega) _ _
  · rw [h3]
    exact ((b2.set_other (by omega) _ _).set_same _ _).set_other (by omega) _ _
  · rw [h3]
    exact ((b4.set_same _ _).set_other (by omega) _ _).set_other (by omega) _ _
  · by_cases e : i = 0
    · rw [if_pos e] at hi
      cases hi
      exact ⟨by omega, by omega⟩
    · rw [if_neg e] at hi
      cases hi
end Go.Proofs.Ybulkefuq
