/-
  (*dictionary).keep: one contract.
-/
import Derived.Test.YbulkefuqGrow
namespace Go.Proofs.Ybulkefuq
open Go.RowKit

theorem newLen_max (n : Nat) : NewLen n (max (n / 256 + 1) (2 * (n / 256))) := by
  unfold NewLen
  omega

/-- from a table long enough, no chunk at the place: chunk made, entry put -/
theorem after_dict {w : World} {bd X A L n : Nat} {tab : Nat → Option Nat} {f : Nat → Option Addr} {e : Addr} {S : Nat → Prop} (g : DictAt w bd X A L tab f) (hnear : n / 256 < L) (ht : tab (n / 256) = none)
    (hS : ∀ b, w.heap.size ≤ b → S b) (hd : S bd) (hx : S X) (ha : S A) (hc : ∀ i c, tab i = some c → S c) (hf : ∀ n a, f n = some a → EntOk w a) (he : EntOk w e) :
    Dict (after w A n e) bd S (some L) (fun m => if m = n then some e else f m) ∧ Fr S w (after w A n e) := by
  have hfr : Fr S w (after w A n e) := by
    unfold after
    exact (((Fr.refl S w).alloc _).setCell ha _).setCell (hS _ (Nat.le_refl _)) _
  refine ⟨⟨hd, fun m a hm => ?_, X, A, _, (g.chunk hnear ht).put (n := n) (c := w.heap.size) (by simp) e, hx, ha, fun i c hi => ?_⟩, hfr⟩
  · dsimp only at hm
    by_cases e' : m = n
    · rw [if_pos e'] at hm
      cases hm
      exact he.fr hfr
    · rw [if_neg e'] at hm
      exact (hf m a hm).fr hfr
  · by_cases e' : i = n / 256
    · rw [if_pos e'] at hi
      cases hi
      exact hS _ (Nat.le_refl _)
    · rw [if_neg e'] at hi
      exact hc i c hi

theorem keep_any {w : World} {bd : Nat} {S : Nat → Prop} {L : Option Nat} {f : Nat → Option Addr} (h : Dict w bd S L f) (hS : ∀ b, w.heap.size ≤ b → S b) (n : Nat) (hn : n < 18446744073709551616) (e : Addr) (he : EntOk w e) :
    Calls Yba.prog 17 #[.pointer (some ⟨bd, 0, none⟩), .int .u64 n, .pointer (some e)] w fun en w' => en = .returned (.tuple #[]) ∧ Dict w' bd S (keepL L n) (keepF f n e) ∧ Fr S w w' := by
  by_cases hbig : 16777216 < n
  · refine (keep_big bd n _ w hn hbig).mono ?_
    rintro en w' ⟨rfl, rfl⟩
    unfold keepL keepF
    rw [if_pos hbig, if_pos hbig]
    exact ⟨rfl, h, Fr.refl _ _⟩
  have hbig' : n ≤ 16777216 := by omega
  unfold keepL keepF
  rw [if_neg hbig, if_neg hbig]
  obtain ⟨hd, hf, h3⟩ := h
  have hdm : 256 * (n / 256) + n % 256 = n := Nat.div_add_mod n 256
  have hm : n % 256 < 256 := Nat.mod_lt _ (by omega)
  have hnl := newLen_max n
  have hnear : n / 256 < max (n / 256 + 1) (2 * (n / 256)) := by omega
  cases L with
  | none =>
    refine (keep_nil bd n _ f _ rfl h3.2 e w hbig' hnl h3.1 he).mono ?_
    rintro en w' ⟨rfl, w1, A, X, g1, hfr, ⟨hA, hX⟩, rfl⟩
    have hfr' : Fr S w w1 := hfr.mono fun b hb => by rcases hb with rfl | hb; exact hd; exact hS _ hb
    obtain ⟨r1, r2⟩ := after_dict (S := S) (n := n) (e := e) g1 hnear rfl (fun b hb => hS b (Nat.le_trans hfr.size hb)) hd (hS _ hX) (hS _ hA) (fun i c hi => by simp at hi) (fun m a hm => (hf m a hm).fr hfr') (he.fr hfr')
    exact ⟨rfl, r1, hfr'.trans r2⟩
  | some l =>
    obtain ⟨bx, ba, tab, g, hx, ha, hc⟩ := h3
    by_cases hfar : l ≤ n / 256
    · simp only [if_pos hfar]
      refine (keep_grow bd bx ba l n _ f tab e w hbig' hnl g hfar he).mono ?_
      rintro en w' ⟨rfl, w1, A, X, g1, hfr, ⟨hA, hX⟩, rfl⟩
      have hfr' : Fr S w w1 := hfr.mono fun b hb => by rcases hb with rfl | hb; exact hd; exact hS _ hb
      obtain ⟨r1, r2⟩ := after_dict (S := S) (n := n) (e := e) g1 hnear (g.lt _ hfar) (fun b hb => hS b (Nat.le_trans hfr.size hb)) hd (hS _ hX) (hS _ hA) hc (fun m a hm => (hf m a hm).fr hfr') (he.fr hfr')
      exact ⟨rfl, r1, hfr'.trans r2⟩
    · simp only [if_neg hfar]
      cases ht : tab (n / 256) with
      | none =>
        refine (keep_chunk bd bx ba l n tab f e w hbig' (by omega) g ht he).mono ?_
        rintro en w' ⟨rfl, rfl⟩
        obtain ⟨r1, r2⟩ := after_dict (S := S) (n := n) (e := e) g (by omega) ht hS hd hx ha hc hf he
        exact ⟨rfl, r1, r2⟩
      | some c =>
        have hb := g.c _ _ ht
        have hac : w.cell? ⟨ba, n / 256, none⟩ = some (.pointer (some ⟨c, 0, none⟩)) := by rw [g.a.cell, ptrs_get _ _ _ (by omega), ht]; rfl
        refine (keep_there bd bx ba l c n e w hbig' g.ll (by omega) g.d g.x hac (cv_chunk hb (ptrs_size _ _)) _ (by rw [hb.cell]; exact ptrs_get _ _ _ hm) (hb.frozen _) (cv_entry' he)).mono ?_
        rintro en w' ⟨rfl, rfl⟩
        have hfr : Fr S w (w.setCell ⟨c, n % 256, none⟩ (.pointer (some e))) := (Fr.refl S w).setCell (hc _ _ ht) _
        refine ⟨rfl, ⟨hd, fun m a hma => ?_, bx, ba, tab, g.put ht e, hx, ha, hc⟩, hfr⟩
        dsimp only at hma
        by_cases e' : m = n
        · rw [if_pos e'] at hma
          cases hma
          exact he.fr hfr
        · rw [if_neg e'] at hma
          exact (hf m a hma).fr hfr
end Go.Proofs.Ybulkefuq
