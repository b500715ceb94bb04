/-
  What was kept before: the table that the law lays by hand. Plain.
-/
import Derived.Test.YbulkefuqClear
import Derived.Test.YbulkefuqLook
import Derived.Deep.AppendLies
namespace Go.Proofs.Ybulkefuq
open Go.RowKit Go.Maps

/-- A chunk table that no dictionary bears yet. -/
structure TabAt (w : World) (bx ba l : Nat) (tab : Nat → Option Nat) (f : Nat → Option Addr) : Prop where
  x : Blk w bx #[.slice (some ⟨ba, 0, none⟩) l l] 36
  a : Blk w ba (ptrs l fun i => (tab i).map (⟨·, 0, none⟩)) 42
  c : ∀ i c, tab i = some c → Blk w c (ptrs 256 fun j => f (256 * i + j)) 49
  n : ∀ i, tab i = none → ∀ j, j < 256 → f (256 * i + j) = none
  lt : ∀ i, l ≤ i → tab i = none
  inj : ∀ i j c, tab i = some c → tab j = some c → i = j
  ll : l ≤ 131072

theorem DictAt.tab {w : World} {bd bx ba l : Nat} {tab : Nat → Option Nat} {f : Nat → Option Addr} (h : DictAt w bd bx ba l tab f) : TabAt w bx ba l tab f := ⟨h.x, h.a, h.c, h.n, h.lt, h.inj, h.ll⟩
theorem TabAt.dict {w : World} {bd bx ba l : Nat} {tab : Nat → Option Nat} {f : Nat → Option Addr} (h : TabAt w bx ba l tab f) (hd : Blk w bd #[.pointer (some ⟨bx, 0, none⟩), .nilFunc] 34) : DictAt w bd bx ba l tab f := ⟨hd, h.x, h.a, h.c, h.n, h.lt, h.inj, h.ll⟩
theorem TabAt.fr {S' : Nat → Prop} {w w' : World} {bx ba l : Nat} {tab : Nat → Option Nat} {f : Nat → Option Addr} (h : TabAt w bx ba l tab f) (k : Fr S' w w') (hn : ∀ b cs T, Blk w b cs T → (T = 36 ∨ T = 42 ∨ T = 49) → ¬ S' b) : TabAt w' bx ba l tab f :=
  ⟨k.blk h.x (hn _ _ _ h.x (by simp)), k.blk h.a (hn _ _ _ h.a (by simp)), fun i c e => k.blk (h.c i c e) (hn _ _ _ (h.c i c e) (by simp)), h.n, h.lt, h.inj, h.ll⟩

theorem TabAt.put {w : World} {bx ba l : Nat} {tab : Nat → Option Nat} {f : Nat → Option Addr} (h : TabAt w bx ba l tab f) {n c : Nat} (ht : tab (n / 256) = some c) (e : Addr) :
    TabAt (w.setCell ⟨c, n % 256, none⟩ (.pointer (some e))) bx ba l tab (fun m => if m = n then some e else f m) := by
  have hc := h.c _ _ ht
  have hm : n % 256 < 256 := Nat.mod_lt _ (by omega)
  have hdm : 256 * (n / 256) + n % 256 = n := Nat.div_add_mod n 256
  refine ⟨h.x.set_other (h.x.ne hc (by decide)) _ _, h.a.set_other (h.a.ne hc (by decide)) _ _, fun i c' e' => ?_, fun i e' j hj => ?_, h.lt, h.inj, h.ll⟩
  · by_cases hcc : c' = c
    · subst hcc
      obtain rfl := h.inj _ _ _ e' ht
      have := hc.set_same (n % 256) (.pointer (some e))
      rw [ptrs_set] at this
      rw [show (ptrs 256 fun j => if 256 * (n / 256) + j = n then some e else f (256 * (n / 256) + j)) = ptrs 256 (fun j => if j = n % 256 then some e else f (256 * (n / 256) + j)) from ptrs_congr fun j _ => by
        by_cases ej : j = n % 256
        · subst ej; rw [if_pos hdm, if_pos rfl]
        · rw [if_neg (by omega), if_neg ej]]
      exact this
    · have := (h.c _ _ e').set_other hcc (n % 256) (.pointer (some e))
      rw [show (ptrs 256 fun j => if 256 * i + j = n then some e else f (256 * i + j)) = ptrs 256 (fun j => f (256 * i + j)) from ptrs_congr fun j hj => by
        rw [if_neg ?_]
        intro en
        have : n / 256 = i := by omega
        rw [this] at ht
        exact hcc (by rw [ht] at e'; exact (Option.some.inj e').symm)]
      exact this
  · rw [if_neg ?_]
    · exact h.n i e' j hj
    · intro en
      have : n / 256 = i := by omega
      rw [this, e'] at ht
      cases ht

theorem TabAt.chunk {w : World} {bx ba l : Nat} {tab : Nat → Option Nat} {f : Nat → Option Addr} (h : TabAt w bx ba l tab f) {i : Nat} (hi : i < l) (ht : tab i = none) :
    TabAt ((w.alloc (.cells chunk0 49)).setCell ⟨ba, i, none⟩ (.pointer (some ⟨w.heap.size, 0, none⟩))) bx ba l (fun j => if j = i then some w.heap.size else tab j) f := by
  have ha := h.a.alloc (.cells chunk0 49)
  have hnew := Blk.new w chunk0 49
  refine ⟨(h.x.alloc _).set_other (h.x.ne h.a (by decide)) _ _, ?_, fun j c e' => ?_, fun j e' => ?_, fun j hj => ?_, fun j j' c e1 e2 => ?_, h.ll⟩
  · have := ha.set_same i (.pointer (some ⟨w.heap.size, 0, none⟩))
    rw [ptrs_set] at this
    rw [ptrs_congr (g := fun j => if j = i then some ⟨w.heap.size, 0, none⟩ else (tab j).map (⟨·, 0, none⟩)) fun j _ => by by_cases e : j = i <;> simp [e]]
    exact this
  · by_cases e : j = i
    · subst e
      simp at e'
      subst e'
      have h2 : Blk ((w.alloc (.cells chunk0 49)).setCell ⟨ba, j, none⟩ (.pointer (some ⟨w.heap.size, 0, none⟩))) w.heap.size chunk0 49 := hnew.set_other (by have := h.a.lt; omega) _ _
      rw [ptrs_congr (g := fun _ => none) fun k hk => h.n j ht k hk]
      exact h2
    · rw [if_neg e] at e'
      exact ((h.c _ _ e').alloc _).set_other ((h.c _ _ e').ne h.a (by decide)) _ _
  · by_cases e : j = i
    · subst e; simp at e'
    · rw [if_neg e] at e'
      exact h.n j e'
  · rw [if_neg (by omega)]
    exact h.lt j hj
  · by_cases e : j = i
    · subst e
      simp at e1
      by_cases e' : j' = j
      · exact e'.symm
      · rw [if_neg e'] at e2
        have := (h.c _ _ e2).lt
        omega
    · rw [if_neg e] at e1
      by_cases e' : j' = i
      · subst e'
        simp at e2
        have := (h.c _ _ e1).lt
        omega
      · rw [if_neg e'] at e2
        exact h.inj _ _ _ e1 e2

theorem TabAt.made {w : World} {X A L : Nat} (hL' : L ≤ 131072) {f : Nat → Option Addr} (hf : ∀ n, f n = none) (hx : Blk w X #[.slice (some ⟨A, 0, none⟩) L L] 36) (ha : Blk w A (ptrs L fun _ => none) 42) : TabAt w X A L (fun _ => none) f :=
  ⟨hx, ha, fun i c e => by simp at e, fun i _ j _ => hf _, fun _ _ => rfl, fun i j c e => by simp at e, hL'⟩

/-! ### the two rows -/
def rowN (pn : Nat → Nat) (k : Nat) : List Value := (List.range k).map fun i => Value.int .u64 (pn i)
def rowE (pe : Nat → Option Addr) (k : Nat) : List Value := (List.range k).map fun i => Value.pointer (pe i)
theorem rowN_length (pn : Nat → Nat) (k : Nat) : (rowN pn k).length = k := by simp [rowN]
theorem rowE_length (pe : Nat → Option Addr) (k : Nat) : (rowE pe k).length = k := by simp [rowE]
/-- g with x at k. -/
def updAt {α : Type} (g : Nat → α) (k : Nat) (x : α) : Nat → α := fun i => if i = k then x else g i
theorem rowN_snoc (pn : Nat → Nat) (k n : Nat) : rowN pn k ++ [.int .u64 n] = rowN (updAt pn k n) (k + 1) := by
  unfold rowN updAt
  rw [List.range_succ, List.map_append]
  congr 1
  · apply List.map_congr_left
    intro i hi
    have := List.mem_range.1 hi
    rw [if_neg (by omega)]
  · simp
theorem rowE_snoc (pe : Nat → Option Addr) (k : Nat) (e : Option Addr) : rowE pe k ++ [.pointer e] = rowE (updAt pe k e) (k + 1) := by
  unfold rowE updAt
  rw [List.range_succ, List.map_append]
  congr 1
  · apply List.map_congr_left
    intro i hi
    have := List.mem_range.1 hi
    rw [if_neg (by omega)]
  · simp

theorem own_blk {w : World} {base : Nat} {e : TypeId} {v : Value} {n : Nat} {xs : List Value} (h : w.ownsRow base e 1 v n xs) {g : Nat} (hg : v.ownBlock = some g) : base ≤ g ∧ ∃ cs, Blk w g cs e := by
  rcases h.2 with ⟨rfl, _⟩ | ⟨g', cap, cur, rfl, hb, hgg, _⟩
  · simp [Value.ownBlock] at hg
  · simp [Value.ownBlock] at hg
    subst hg
    exact ⟨hb, cur, hgg⟩
theorem own_ne {w : World} {base : Nat} {e : TypeId} {v : Value} {n : Nat} {xs : List Value} (h : w.ownsRow base e 1 v n xs) {b : Nat} {cs : Array Value} {T : TypeId} (hb : Blk w b cs T) (hT : T ≠ e) : ¬ v.ownBlock = some b := fun hg => by
  obtain ⟨_, cs', hb'⟩ := own_blk h hg
  exact hT (hb.eq hb').2
theorem own_fr {S : Nat → Prop} {w w' : World} {base : Nat} {e : TypeId} {v : Value} {n : Nat} {xs : List Value} (h : w.ownsRow base e 1 v n xs) (k : Fr S w w') (hn : ∀ g, v.ownBlock = some g → ¬ S g) : w'.ownsRow base e 1 v n xs := by
  refine ⟨h.1, ?_⟩
  rcases h.2 with hh | ⟨g, cap, cur, rfl, hb, hgg, rest⟩
  · exact .inl hh
  · refine .inr ⟨g, cap, cur, rfl, hb, ?_, rest⟩
    exact k.blk hgg (hn g rfl)
/-- behind an append onto a row of type e -/
theorem Fr.of_append {w w' : World} {base : Nat} {e : TypeId} {v : Value} {n : Nat} {xs : List Value} (h : w.ownsRow base e 1 v n xs) (hg : w.grownBy w' v.ownBlock) (he : e ≠ 54 ∧ e ≠ 70) : Fr (fun b => v.ownBlock = some b) w w' :=
  Fr.of_grown hg fun r x hr hx hs => by
    obtain ⟨_, cs, hb⟩ := own_blk h hr
    rw [hb.shape] at hs
    cases hs
    rcases hx with hx | hx
    · exact he.1 hx
    · exact he.2 hx

theorem own_cells {w : World} {base : Nat} {e : TypeId} {v : Value} {n : Nat} {xs : List Value} (h : w.ownsRow base e 1 v n xs) : (n = 0 ∧ v = .slice none 0 0) ∨ ∃ g cap, v = .slice (some ⟨g, 0, none⟩) n cap ∧ ∀ j, j < n → w.cell? ⟨g, j, none⟩ = xs[j]? := by
  rcases h.2 with ⟨rfl, rfl⟩ | ⟨g, cap, cur, rfl, hb, hgg, h1, h2, h3, h4⟩
  · exact .inl ⟨rfl, rfl⟩
  · refine .inr ⟨g, cap, rfl, fun j hj => ?_⟩
    have hB : Blk w g cur e := hgg
    rw [hB.cell, ← h4, List.getElem?_take_of_lt (by omega)]
    simp

theorem preAt_of {w : World} {base : Nat} {vN vE : Value} {m2 : Nat} {pn : Nat → Nat} {pe : Nat → Option Addr} (hN : w.ownsRow base 38 1 vN m2 (rowN pn m2)) (hE : w.ownsRow base 44 1 vE m2 (rowE pe m2)) : PreAt w vN vE m2 pn pe := by
  by_cases h0 : m2 = 0
  · subst h0
    rcases own_cells hN with ⟨_, hv⟩ | ⟨nb, cn, hv, hc⟩
    · exact .inl ⟨rfl, _, _, hv⟩
    · exact .inl ⟨rfl, _, _, hv⟩
  · rcases own_cells hN with ⟨h1, _⟩ | ⟨nb, cn, hv, hc⟩
    · exact absurd h1 h0
    · rcases own_cells hE with ⟨h1, _⟩ | ⟨eb, ce, hv', hc'⟩
      · exact absurd h1 h0
      · refine .inr ⟨nb, cn, eb, ce, hv, hv', fun j hj => ?_, fun j hj => ?_⟩
        · rw [hc j hj]; simp [rowN, hj]
        · rw [hc' j hj]; simp [rowE, hj]

/-- the last of that number, one more put -/
theorem last_put (pn : Nat → Nat) (pe : Nat → Option Addr) (k n : Nat) (e : Addr) (p : Nat) :
    (lastTo (updAt pn k n) p (k + 1)).bind (updAt pe k (some e)) = if p = n then some e else (lastTo pn p k).bind pe := by
  have hlt : ∀ g p j i, lastTo g p j = some i → i < j := fun g p j => by
    induction j with
    | zero => intro i h; simp [lastTo] at h
    | succ j ih =>
      intro i h
      unfold lastTo at h
      split at h
      · cases h; omega
      · have := ih i h; omega
  have hcg : ∀ j, j ≤ k → lastTo (updAt pn k n) p j = lastTo pn p j := fun j => by
    induction j with
    | zero => intro _; rfl
    | succ j ih =>
      intro hj
      have e1 : updAt pn k n j = pn j := by unfold updAt; rw [if_neg (by omega)]
      simp only [lastTo, e1, ih (by omega)]
  have hk : updAt pn k n k = n := by simp [updAt]
  rw [show lastTo (updAt pn k n) p (k + 1) = if n = p then some k else lastTo pn p k from by simp only [lastTo, hk, hcg k (Nat.le_refl _)]]
  by_cases e' : p = n
  · rw [if_pos e'.symm, if_pos e']
    simp [updAt]
  · rw [if_neg (fun h => e' h.symm), if_neg e']
    cases hl : lastTo pn p k with
    | none => rfl
    | some i =>
      have := hlt _ _ _ _ hl
      simp [updAt]
      omega

/-- What the law has laid before: the dictionary at bd, its blocks among S0, and the two rows. -/
structure PreDone (w wc : World) (bd k : Nat) (vN vE : Value) (S0 : Nat → Prop) (L : Option Nat) (f : Nat → Option Addr) (m2 : Nat) (pn : Nat → Nat) (pe : Nat → Option Addr) : Prop where
  dict : Dict wc bd S0 L f
  typ : ∀ b, S0 b → w.heap.size ≤ b ∧ ∃ cs T, Blk wc b cs T ∧ (T = 34 ∨ T = 36 ∨ T = 42 ∨ T = 49)
  rN : wc.ownsRow w.heap.size 38 1 vN m2 (rowN pn m2)
  rE : wc.ownsRow w.heap.size 44 1 vE m2 (rowE pe m2)
  mb : m2 ≤ 4096
  pb : ∀ j, j < m2 → pn j < 18446744073709551616
  feq : ∀ p, f p = (lastTo pn p m2).bind pe
  leq : L = if k = 0 then none else some (k - 1)
  fr : Fr (fun b => w.heap.size ≤ b) w wc
end Go.Proofs.Ybulkefuq
