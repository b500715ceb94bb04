/-
  How a dictionary turns: an entry put in its place, a chunk made, a table grown. Plain facts on worlds.
-/
import Derived.Test.YbulkefuqDict
import Derived.Laws.MakeOwn
namespace Go.Proofs.Ybulkefuq
open Go.RowKit

/-- A new chunk's cells. -/
def chunk0 : Array Value := ptrs 256 fun _ => none

theorem made_ptrs (n : Nat) : madeCells #[.pointer none] n = ptrs n fun _ => none := by
  apply Array.ext_getElem?
  intro i
  by_cases h : i < n
  · rw [ptrs_get _ _ _ h]
    simp [madeCells, h, Nat.mod_one]
  · rw [Array.getElem?_eq_none (by simp [madeCells]; omega), Array.getElem?_eq_none (by simp [ptrs]; omega)]

/-- 'make([]atomic.Pointer[entryChunk], n)' -/
theorem make36 (k : IntKind) (n : Nat) (h : n ≤ 1000000) (w : World) :
    (Instr.makeSlice 36 (.int k n) (.int k n)).run Yba.prog w = .ok (.slice (some ⟨w.heap.size, 0, none⟩) n n) (w.alloc (.cells (ptrs n fun _ => none) 42)) := by
  have hi : (Yba.prog.info? 42).map (fun i => (i.zero, i.size, i.bytes)) = some (some (.agg #[.pointer none]), 1, 8) := by kernel_rfl
  obtain ⟨i, hi, hzz⟩ := Option.map_eq_some_iff.1 hi
  simp only [Prod.mk.injEq] at hzz
  obtain ⟨hz, hs, hb⟩ := hzz
  have := run_make (P := Yba.prog) w 36 42 i _ Yba.underlying36 hi hz k k n n (by omega) (Int.le_refl _) (by rw [hb]; omega) (by omega)
  rw [this, hs]
  simp only [Int.toNat_natCast, Nat.mul_one]
  rw [← made_ptrs]
  rfl

theorem DictAt.put {w : World} {bd bx ba l : Nat} {tab : Nat → Option Nat} {f : Nat → Option Addr} (h : DictAt w bd bx ba l tab f) {n c : Nat} (ht : tab (n / 256) = some c) (e : Addr) :
    DictAt (w.setCell ⟨c, n % 256, none⟩ (.pointer (some e))) bd bx ba l tab (fun m => if m = n then some e else f m) := by
  have hc := h.c _ _ ht
  have hm : n % 256 < 256 := Nat.mod_lt _ (by omega)
  have hdm : 256 * (n / 256) + n % 256 = n := Nat.div_add_mod n 256
  refine ⟨h.d.set_other (h.d.ne hc (by decide)) _ _, h.x.set_other (h.x.ne hc (by decide)) _ _, h.a.set_other (h.a.ne hc (by decide)) _ _, fun i c' e' => ?_, fun i e' j hj => ?_, h.lt, h.inj, h.ll⟩
  · by_cases hcc : c' = c
    · subst hcc
      obtain rfl := h.inj _ _ _ e' ht
      have := hc.set_same (n % 256) (.pointer (some e))
      rw [ptrs_set] at this
      rw [show (ptrs 256 fun j => if 256 * (n / 256) + j = n then some e else f (256 * (n / 256) + j)) = ptrs 256 (fun j => if j = n % 256 then some e else f (256 * (n / 256) + j)) from ptrs_congr fun j _ => by
        by_cases ej : j = n % 256
        · subst ej; rw [if_pos hdm, if_pos rfl]
        · rw [if_neg (by omega), if_neg ej]]
      exact this
    · have := (h.c _ _ e').set_other hcc (n % 256) (.pointer (some e))
      rw [show (ptrs 256 fun j => if 256 * i + j = n then some e else f (256 * i + j)) = ptrs 256 (fun j => f (256 * i + j)) from ptrs_congr fun j hj => by
        rw [if_neg ?_]
        intro en
        have : n / 256 = i := by omega
        rw [this] at ht
        exact hcc (by rw [ht] at e'; exact (Option.some.inj e').symm)]
      exact this
  · rw [if_neg ?_]
    · exact h.n i e' j hj
    · intro en
      have : n / 256 = i := by omega
      rw [this, e'] at ht
      cases ht

theorem DictAt.chunk {w : World} {bd bx ba l : Nat} {tab : Nat → Option Nat} {f : Nat → Option Addr} (h : DictAt w bd bx ba l tab f) {i : Nat} (hi : i < l) (ht : tab i = none) :
    DictAt ((w.alloc (.cells chunk0 49)).setCell ⟨ba, i, none⟩ (.pointer (some ⟨w.heap.size, 0, none⟩))) bd bx ba l (fun j => if j = i then some w.heap.size else tab j) f := by
  have ha := h.a.alloc (.cells chunk0 49)
  have hnew := Blk.new w chunk0 49
  refine ⟨(h.d.alloc _).set_other (h.d.ne h.a (by decide)) _ _, (h.x.alloc _).set_other (h.x.ne h.a (by decide)) _ _, ?_, fun j c e' => ?_, fun j e' => ?_, fun j hj => ?_, fun j j' c e1 e2 => ?_, h.ll⟩
  · have := ha.set_same i (.pointer (some ⟨w.heap.size, 0, none⟩))
    rw [ptrs_set] at this
    rw [ptrs_congr (g := fun j => if j = i then some ⟨w.heap.size, 0, none⟩ else (tab j).map (⟨·, 0, none⟩)) fun j _ => by by_cases e : j = i <;> simp [e]]
    exact this
  · by_cases e : j = i
    · subst e
      simp at e'
      subst e'
      have h2 : Blk ((w.alloc (.cells chunk0 49)).setCell ⟨ba, j, none⟩ (.pointer (some ⟨w.heap.size, 0, none⟩))) w.heap.size chunk0 49 := hnew.set_other (by have := h.a.lt; omega) _ _
      rw [ptrs_congr (g := fun _ => none) fun k hk => h.n j ht k hk]
      exact h2
    · rw [if_neg e] at e'
      exact ((h.c _ _ e').alloc _).set_other ((h.c _ _ e').ne h.a (by decide)) _ _
  · by_cases e : j = i
    · subst e; simp at e'
    · rw [if_neg e] at e'
      exact h.n j e'
  · rw [if_neg (by omega)]
    exact h.lt j hj
  · by_cases e : j = i
    · subst e
      simp at e1
      by_cases e' : j' = j
      · exact e'.symm
      · rw [if_neg e'] at e2
        have := (h.c _ _ e2).lt
        omega
    · rw [if_neg e] at e1
      by_cases e' : j' = i
      · subst e'
        simp at e2
        have := (h.c _ _ e1).lt
        omega
      · rw [if_neg e'] at e2
        exact h.inj _ _ _ e1 e2

/-- A table in its new place: the array A of L places, its box X. -/
theorem DictAt.moved {w w' : World} {bd bx ba l : Nat} {tab : Nat → Option Nat} {f : Nat → Option Addr} (h : DictAt w bd bx ba l tab f) {A X L : Nat} (hL : l ≤ L) (hL' : L ≤ 131072)
    (hd : Blk w' bd #[.pointer (some ⟨X, 0, none⟩), .nilFunc] 34) (hx : Blk w' X #[.slice (some ⟨A, 0, none⟩) L L] 36) (ha : Blk w' A (ptrs L fun i => (tab i).map (⟨·, 0, none⟩)) 42)
    (hk : ∀ b cs, Blk w b cs 49 → Blk w' b cs 49) : DictAt w' bd X A L tab f :=
  ⟨hd, hx, ha, fun i c e => hk _ _ (h.c i c e), h.n, fun i hi => h.lt i (by omega), h.inj, hL'⟩

/-- A table made: no chunk yet. -/
theorem DictAt.made {w' : World} {bd : Nat} {A X L : Nat} (hL' : L ≤ 131072) {f : Nat → Option Addr} (hf : ∀ n, f n = none)
    (hd : Blk w' bd #[.pointer (some ⟨X, 0, none⟩), .nilFunc] 34) (hx : Blk w' X #[.slice (some ⟨A, 0, none⟩) L L] 36) (ha : Blk w' A (ptrs L fun _ => none) 42) : DictAt w' bd X A L (fun _ => none) f :=
  ⟨hd, hx, ha, fun i c e => by simp at e, fun i _ j _ => hf _, fun _ _ => rfl, fun i j c e => by simp at e, hL'⟩

/-- How long the table is behind keep(n, ..). -/
def keepL (L : Option Nat) (n : Nat) : Option Nat :=
  if 16777216 < n then L else
  match L with
  | none => some (max (n / 256 + 1) (2 * (n / 256)))
  | some l => if l ≤ n / 256 then some (max (n / 256 + 1) (2 * (n / 256))) else some l
/-- What it holds. -/
def keepF (f : Nat → Option Addr) (n : Nat) (e : Addr) : Nat → Option Addr := if 16777216 < n then f else fun m => if m = n then some e else f m
end Go.Proofs.Ybulkefuq
