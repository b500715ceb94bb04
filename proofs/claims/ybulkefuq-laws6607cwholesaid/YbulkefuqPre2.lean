/-
  What was kept before: the three ends of the law's first part. Plain.
-/
import Derived.Test.YbulkefuqPre
namespace Go.Proofs.Ybulkefuq
open Go.RowKit Go.Maps

theorem pre_nil (w : World) : ∃ S0 L f m2 pn pe, Value.int IntKind.i64 0 = .int .i64 ((0 - 1 : Nat) : Int) ∧ PreDone w (w.alloc (.cells #[.pointer none, .nilFunc] 34)) w.heap.size 0 (.slice none 0 0) (.slice none 0 0) S0 L f m2 pn pe :=
  ⟨fun b => b = w.heap.size, none, fun _ => none, 0, fun _ => 0, fun _ => none, rfl,
    { dict := ⟨rfl, fun n a h => (by cases h), Blk.new w _ _, fun _ => rfl⟩
      typ := fun b hb => ⟨by omega, #[.pointer none, .nilFunc], 34, by subst hb; exact Blk.new w _ _, by simp⟩
      rN := World.ownsRow_nil _ _ _ _
      rE := World.ownsRow_nil _ _ _ _
      mb := by omega
      pb := fun j hj => by omega
      feq := fun p => rfl
      leq := rfl
      fr := (Fr.refl _ w).alloc _ }⟩

/-- what the law has laid, in mid-loop: kN numbers, kE entries in the two rows -/
structure PreCore (w wr : World) (bd X A l : Nat) (kN kE : Nat) (vN vE : Value) (tab : Nat → Option Nat) (f : Nat → Option Addr) (pn : Nat → Nat) (pe : Nat → Option Addr) : Prop where
  d : Blk wr bd #[.pointer none, .nilFunc] 34
  t : TabAt wr X A l tab f
  e : ∀ n a, f n = some a → EntOk wr a
  b : w.heap.size ≤ bd ∧ w.heap.size ≤ X ∧ w.heap.size ≤ A ∧ ∀ i c, tab i = some c → w.heap.size ≤ c
  rN : wr.ownsRow w.heap.size 38 1 vN kN (rowN pn kN)
  rE : wr.ownsRow w.heap.size 44 1 vE kE (rowE pe kE)
  fr : Fr (fun b => w.heap.size ≤ b) w wr

/-- what holds at the head of each round of the law's first loop -/
def PreRound (w wr : World) (bd X A l k : Nat) (vN vE : Value) (tab : Nat → Option Nat) (f : Nat → Option Addr) (pn : Nat → Nat) (pe : Nat → Option Addr) : Prop :=
  PreCore w wr bd X A l k k vN vE tab f pn pe ∧ (∀ j, j < k → pn j < 1280) ∧ ∀ p, f p = (lastTo pn p k).bind pe

section
variable {w wr : World} {bd X A l kN kE : Nat} {vN vE : Value} {tab : Nat → Option Nat} {f : Nat → Option Addr} {pn : Nat → Nat} {pe : Nat → Option Addr}

/-- while blocks of other types are made or written -/
theorem PreCore.fr' (h : PreCore w wr bd X A l kN kE vN vE tab f pn pe) {S : Nat → Prop} {w' : World} (k : Fr S wr w') (hS : ∀ b, S b → w.heap.size ≤ b) (hn : ∀ b cs T, Blk wr b cs T → (T = 34 ∨ T = 36 ∨ T = 42 ∨ T = 49 ∨ T = 38 ∨ T = 44) → ¬ S b) : PreCore w w' bd X A l kN kE vN vE tab f pn pe :=
  { d := k.blk h.d (hn _ _ _ h.d (by simp))
    t := h.t.fr k (fun b cs T hb hT => hn b cs T hb (by rcases hT with rfl | rfl | rfl <;> simp))
    e := fun n a hf => (h.e n a hf).fr k
    b := h.b
    rN := own_fr h.rN k (fun g hg => by obtain ⟨_, cs, hb⟩ := own_blk h.rN hg; exact hn _ _ _ hb (by simp))
    rE := own_fr h.rE k (fun g hg => by obtain ⟨_, cs, hb⟩ := own_blk h.rE hg; exact hn _ _ _ hb (by simp))
    fr := h.fr.trans (k.mono hS) }

theorem PreCore.alloc (h : PreCore w wr bd X A l kN kE vN vE tab f pn pe) (o : Obj) : PreCore w (wr.alloc o) bd X A l kN kE vN vE tab f pn pe :=
  h.fr' (S := fun _ => False) ((Fr.refl _ wr).alloc o) (fun _ h => h.elim) (fun _ _ _ _ _ h => h)

theorem PreCore.drew (h : PreCore w wr bd X A l kN kE vN vE tab f pn pe) : PreCore w wr.drew bd X A l kN kE vN vE tab f pn pe :=
  h.fr' (S := fun _ => False) (Fr.refl _ wr).drew (fun _ h => h.elim) (fun _ _ _ _ _ h => h)

/-- a chunk made -/
theorem PreCore.chunk (h : PreCore w wr bd X A l kN kE vN vE tab f pn pe) {i : Nat} (hi : i < l) (ht : tab i = none) :
    PreCore w ((wr.alloc (.cells chunk0 49)).setCell ⟨A, i, none⟩ (.pointer (some ⟨wr.heap.size, 0, none⟩))) bd X A l kN kE vN vE (fun j => if j = i then some wr.heap.size else tab j) f pn pe := by
  have hfr : Fr (fun b => b = A) wr ((wr.alloc (.cells chunk0 49)).setCell ⟨A, i, none⟩ (.pointer (some ⟨wr.heap.size, 0, none⟩))) := ((Fr.refl (fun b => b = A) wr).alloc _).setCell (p := ⟨A, i, none⟩) rfl _
  have hA := h.t.a
  refine ⟨hfr.blk h.d (h.d.ne hA (by decide)), h.t.chunk hi ht, fun n a hf => (h.e n a hf).fr hfr, ⟨h.b.1, h.b.2.1, h.b.2.2.1, fun j c hj => ?_⟩, own_fr h.rN hfr (fun g hg e => ?_), own_fr h.rE hfr (fun g hg e => ?_), h.fr.trans (hfr.mono fun b e => by subst e; exact h.b.2.2.1)⟩
  · by_cases e : j = i
    · rw [if_pos e] at hj
      cases hj
      exact h.fr.size
    · rw [if_neg e] at hj
      exact h.b.2.2.2 j c hj
  · subst e; exact own_ne h.rN hA (by decide) hg
  · subst e; exact own_ne h.rE hA (by decide) hg

/-- an entry put in its place -/
theorem PreCore.put (h : PreCore w wr bd X A l kN kE vN vE tab f pn pe) {n c : Nat} (ht : tab (n / 256) = some c) {e : Addr} (he : EntOk wr e) :
    PreCore w (wr.setCell ⟨c, n % 256, none⟩ (.pointer (some e))) bd X A l kN kE vN vE tab (fun m => if m = n then some e else f m) pn pe := by
  have hfr : Fr (fun b => b = c) wr (wr.setCell ⟨c, n % 256, none⟩ (.pointer (some e))) := (Fr.refl (fun b => b = c) wr).setCell (p := ⟨c, n % 256, none⟩) rfl _
  have hC := h.t.c _ _ ht
  refine ⟨hfr.blk h.d (h.d.ne hC (by decide)), h.t.put ht e, fun m a hf => ?_, h.b, own_fr h.rN hfr (fun g hg e => ?_), own_fr h.rE hfr (fun g hg e => ?_), h.fr.trans (hfr.mono fun b e => by subst e; exact h.b.2.2.2 _ _ ht)⟩
  · by_cases e' : m = n
    · rw [if_pos e'] at hf
      cases hf
      exact he.fr hfr
    · rw [if_neg e'] at hf
      exact (h.e m a hf).fr hfr
  · subst e; exact own_ne h.rN hC (by decide) hg
  · subst e; exact own_ne h.rE hC (by decide) hg

/-- one entry more in its row -/
theorem PreCore.appE (h : PreCore w wr bd X A l kN kE vN vE tab f pn pe) {w' : World} {vE' : Value} {e : Option Addr} (hg : wr.grownBy w' vE.ownBlock) (ho : w'.ownsRow w.heap.size 44 1 vE' (kE + 1) (rowE pe kE ++ [.pointer e])) :
    PreCore w w' bd X A l kN (kE + 1) vN vE' tab f pn (updAt pe kE e) := by
  have hfr := Fr.of_append h.rE hg (by decide)
  refine ⟨hfr.blk h.d (fun e => own_ne h.rE h.d (by decide) e), h.t.fr hfr (fun b cs T hb hT e => own_ne h.rE hb (by rcases hT with rfl | rfl | rfl <;> decide) e), fun m a hf => (h.e m a hf).fr hfr, h.b, own_fr h.rN hfr (fun g hgN hgE => ?_), by rw [← rowE_snoc]; exact ho, h.fr.trans (hfr.mono fun b e => (own_blk h.rE e).1)⟩
  obtain ⟨_, cs, hb⟩ := own_blk h.rN hgN
  exact own_ne h.rE hb (by decide) hgE

/-- one number more in its row -/
theorem PreCore.appN (h : PreCore w wr bd X A l kN kE vN vE tab f pn pe) {w' : World} {vN' : Value} {n : Nat} (hg : wr.grownBy w' vN.ownBlock) (ho : w'.ownsRow w.heap.size 38 1 vN' (kN + 1) (rowN pn kN ++ [.int .u64 n])) :
    PreCore w w' bd X A l (kN + 1) kE vN' vE tab f (updAt pn kN n) pe := by
  have hfr := Fr.of_append h.rN hg (by decide)
  refine ⟨hfr.blk h.d (fun e => own_ne h.rN h.d (by decide) e), h.t.fr hfr (fun b cs T hb hT e => own_ne h.rN hb (by rcases hT with rfl | rfl | rfl <;> decide) e), fun m a hf => (h.e m a hf).fr hfr, h.b, by rw [← rowN_snoc]; exact ho, own_fr h.rE hfr (fun g hgE hgN => ?_), h.fr.trans (hfr.mono fun b e => (own_blk h.rN e).1)⟩
  obtain ⟨_, cs, hb⟩ := own_blk h.rE hgE
  exact own_ne h.rN hb (by decide) hgN
end

/-- an entry of its own block -/
theorem entOk_new {w : World} {b : Nat} {cs : Array Value} (h : Blk w b cs 54) (hs : cs.size = 3) : EntOk w ⟨b, 0, none⟩ :=
  ⟨54, cs.size, Or.inl rfl, h.shape, by show 0 < cs.size; omega, by rw [hs]; kernel_rfl⟩

theorem pre_link {w wr : World} {bd X A l k : Nat} {vN vE : Value} {tab : Nat → Option Nat} {f : Nat → Option Addr} {pn : Nat → Nat} {pe : Nat → Option Addr} (h0 : PreRound w wr bd X A l k vN vE tab f pn pe) (hk : k ≤ 4096) :
    PreDone w (wr.setCell ⟨bd, 0, none⟩ (.pointer (some ⟨X, 0, none⟩))) bd (l + 1) vN vE (fun b => b = bd ∨ b = X ∨ b = A ∨ ∃ i, tab i = some b) (some l) f k pn pe := by
  obtain ⟨h, hpb, hfeq⟩ := h0
  obtain ⟨b1, b2, b3, b4⟩ := h.b
  have hfr : Fr (fun b => b = bd) wr (wr.setCell ⟨bd, 0, none⟩ (.pointer (some ⟨X, 0, none⟩))) := (Fr.refl (fun b => b = bd) wr).setCell (p := ⟨bd, 0, none⟩) rfl _
  have hd := h.d.set_same 0 (.pointer (some ⟨X, 0, none⟩))
  have ht := h.t.fr hfr (fun b cs T hb hT e => by
    subst e
    have := (hb.eq h.d).2
    subst this
    simp at hT)
  refine ⟨⟨Or.inl rfl, fun n a hf => (h.e n a hf).fr hfr, X, A, tab, ht.dict hd, Or.inr (Or.inl rfl), Or.inr (Or.inr (Or.inl rfl)), fun i c hi => Or.inr (Or.inr (Or.inr ⟨i, hi⟩))⟩, ?_, ?_, ?_, hk, fun j hj => ?_, hfeq, ?_, ?_⟩
  · rintro b (rfl | rfl | rfl | ⟨i, hi⟩)
    · exact ⟨b1, _, _, hd, by simp⟩
    · exact ⟨b2, _, _, ht.x, by simp⟩
    · exact ⟨b3, _, _, ht.a, by simp⟩
    · exact ⟨b4 i b hi, _, _, ht.c i b hi, by simp⟩
  · exact own_fr h.rN hfr (fun g hg e => by subst e; exact own_ne h.rN h.d (by decide) hg)
  · exact own_fr h.rE hfr (fun g hg e => by subst e; exact own_ne h.rE h.d (by decide) hg)
  · have := hpb j hj; omega
  · simp
  · exact h.fr.setCell (p := ⟨bd, 0, none⟩) b1 _

/-- the first round's head -/
theorem pre_start (w : World) (l : Nat) (hl : l ≤ 4) (wr : World) (hwr : wr = ((w.alloc (.cells #[.pointer none, .nilFunc] 34)).alloc (.cells (ptrs l fun _ => none) 42)).alloc (.cells #[.slice (some ⟨w.heap.size + 1, 0, none⟩) l l] 36)) :
    PreRound w wr w.heap.size (w.heap.size + 1 + 1) (w.heap.size + 1) l 0 (.slice none 0 0) (.slice none 0 0) (fun _ => none) (fun _ => none) (fun _ => 0) (fun _ => none) := by
  have hA : Blk wr (w.heap.size + 1) (ptrs l fun _ => none) 42 := by
    rw [hwr]
    have := (Blk.new (w.alloc (.cells #[.pointer none, .nilFunc] 34)) (ptrs l fun _ => none) 42).alloc (.cells #[.slice (some ⟨w.heap.size + 1, 0, none⟩) l l] 36)
    simpa using this
  have hX : Blk wr (w.heap.size + 1 + 1) #[.slice (some ⟨w.heap.size + 1, 0, none⟩) l l] 36 := by
    rw [hwr]
    have := Blk.new ((w.alloc (.cells #[.pointer none, .nilFunc] 34)).alloc (.cells (ptrs l fun _ => none) 42)) #[.slice (some ⟨w.heap.size + 1, 0, none⟩) l l] 36
    simpa using this
  refine ⟨⟨?_, TabAt.made (by omega) (fun _ => rfl) hX hA, fun n a h => (by cases h), ⟨by omega, by omega, by omega, fun i c h => by simp at h⟩, World.ownsRow_nil _ _ _ _, World.ownsRow_nil _ _ _ _, ?_⟩, fun j hj => by omega, fun p => rfl⟩
  · rw [hwr]
    exact ((Blk.new w _ _).alloc _).alloc _
  · rw [hwr]
    exact (((Fr.refl _ w).alloc _).alloc _).alloc _
end Go.Proofs.Ybulkefuq
