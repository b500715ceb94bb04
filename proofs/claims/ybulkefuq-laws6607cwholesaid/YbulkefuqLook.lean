/-
  zzs6607clook: what it answers at a dictionary.
-/
import Derived.Test.YbulkefuqDict
namespace Go.Proofs.Ybulkefuq
open Go.RowKit

theorem look_nil (bd : Nat) (n : Nat) (w : World) (h : Blk w bd #[.pointer none, .nilFunc] 34) :
    Calls Yba.prog 12 #[.pointer (some ⟨bd, 0, none⟩), .int .u64 n] w fun e w' => e = .returned (.pointer none) ∧ w = w' := by
  have hc : w.cell? ⟨bd, 0, none⟩ = some (.pointer none) := by rw [h.cell]; rfl
  go_enter Yba.func12, Yba.ntmps12
  go_wp2_with (go_at_call 11; refine (load11 _ none _ hc (cv_nil _ _ _ (by simp))).mono ?_; rintro e w' ⟨rfl, rfl⟩)
  go_ret
  exact ⟨rfl, rfl⟩

set_option maxRecDepth 100000 in
theorem look_far (bd bx ba l : Nat) (n : Nat) (w : World) (_hn : n < 18446744073709551616) (_hl : l ≤ 131072) (h : Blk w bd #[.pointer (some ⟨bx, 0, none⟩), .nilFunc] 34) (hx : Blk w bx #[.slice (some ⟨ba, 0, none⟩) l l] 36) (_hfar : l ≤ n / 256) :
    Calls Yba.prog 12 #[.pointer (some ⟨bd, 0, none⟩), .int .u64 n] w fun e w' => e = .returned (.pointer none) ∧ w = w' := by
  have hc : w.cell? ⟨bd, 0, none⟩ = some (.pointer (some ⟨bx, 0, none⟩)) := by rw [h.cell]; rfl
  have hcx : w.cell? ⟨bx, 0, none⟩ = some (.slice (some ⟨ba, 0, none⟩) l l) := by rw [hx.cell]; rfl
  have hcv := cv_chunks hx rfl
  go_enter Yba.func12, Yba.ntmps12
  go_wp2_with (go_at_call 11; refine (load11 _ _ _ hc hcv).mono ?_; rintro e w' ⟨rfl, rfl⟩)
  go_ret
  exact ⟨rfl, rfl⟩

set_option maxRecDepth 100000 in
theorem look_none (bd bx ba l : Nat) (n : Nat) (w : World) (_hn : n < 18446744073709551616) (_hl : l ≤ 131072) (h : Blk w bd #[.pointer (some ⟨bx, 0, none⟩), .nilFunc] 34) (hx : Blk w bx #[.slice (some ⟨ba, 0, none⟩) l l] 36)
    (_hnear : n / 256 < l) (ha : w.cell? ⟨ba, n / 256, none⟩ = some (.pointer none)) :
    Calls Yba.prog 12 #[.pointer (some ⟨bd, 0, none⟩), .int .u64 n] w fun e w' => e = .returned (.pointer none) ∧ w = w' := by
  have hc : w.cell? ⟨bd, 0, none⟩ = some (.pointer (some ⟨bx, 0, none⟩)) := by rw [h.cell]; rfl
  have hcx : w.cell? ⟨bx, 0, none⟩ = some (.slice (some ⟨ba, 0, none⟩) l l) := by rw [hx.cell]; rfl
  have hcv := cv_chunks hx rfl
  go_enter Yba.func12, Yba.ntmps12
  go_wp2_with (go_at_call 11; refine (load11 _ _ _ hc hcv).mono ?_; rintro e w' ⟨rfl, rfl⟩)
  refine (load4 _ none _ ha (cv_nil _ _ _ (by simp))).mono ?_
  rintro e w' ⟨rfl, rfl⟩
  go_wp2
  go_ret
  exact ⟨rfl, rfl⟩

set_option maxRecDepth 100000 in
theorem look_some (bd bx ba l c : Nat) (n : Nat) (w : World) (_hn : n < 18446744073709551616) (_hl : l ≤ 131072) (h : Blk w bd #[.pointer (some ⟨bx, 0, none⟩), .nilFunc] 34) (hx : Blk w bx #[.slice (some ⟨ba, 0, none⟩) l l] 36)
    (_hnear : n / 256 < l) (ha : w.cell? ⟨ba, n / 256, none⟩ = some (.pointer (some ⟨c, 0, none⟩))) (hcv4 : (convert 29 39 (.pointer (some ⟨c, 0, none⟩))).run Yba.prog w = .ok (.pointer (some ⟨c, 0, none⟩)) w)
    (q : Option Addr) (hq : w.cell? ⟨c, n % 256, none⟩ = some (.pointer q)) (hcvq : (convert 29 44 (.pointer q)).run Yba.prog w = .ok (.pointer q) w) :
    Calls Yba.prog 12 #[.pointer (some ⟨bd, 0, none⟩), .int .u64 n] w fun e w' => e = .returned (.pointer q) ∧ w = w' := by
  have hc : w.cell? ⟨bd, 0, none⟩ = some (.pointer (some ⟨bx, 0, none⟩)) := by rw [h.cell]; rfl
  have hcx : w.cell? ⟨bx, 0, none⟩ = some (.slice (some ⟨ba, 0, none⟩) l l) := by rw [hx.cell]; rfl
  have hcv := cv_chunks hx rfl
  go_enter Yba.func12, Yba.ntmps12
  go_wp2_with (go_at_call 11; refine (load11 _ _ _ hc hcv).mono ?_; rintro e w' ⟨rfl, rfl⟩)
  refine (load4 _ _ _ ha hcv4).mono ?_
  rintro e w' ⟨rfl, rfl⟩
  go_wp2_with fail
  refine (load20 _ _ _ hq hcvq).mono ?_
  rintro e w' ⟨rfl, rfl⟩
  go_wp2
  go_ret
  exact ⟨rfl, rfl⟩

/-- zzs6607clook answers the dictionary's entry. -/
theorem look_any {w : World} {bd : Nat} {S : Nat → Prop} {L : Option Nat} {f : Nat → Option Addr} (h : Dict w bd S L f) (n : Nat) (hn : n < 18446744073709551616) :
    Calls Yba.prog 12 #[.pointer (some ⟨bd, 0, none⟩), .int .u64 n] w fun e w' => e = .returned (.pointer (f n)) ∧ w = w' := by
  obtain ⟨_, he, h3⟩ := h
  cases L with
  | none =>
    rw [h3.2 n]
    exact look_nil bd n w h3.1
  | some l =>
    obtain ⟨bx, ba, tab, g, _, _, _⟩ := h3
    have hdm : 256 * (n / 256) + n % 256 = n := Nat.div_add_mod n 256
    have hm : n % 256 < 256 := Nat.mod_lt _ (by omega)
    by_cases hnear : n / 256 < l
    · have ha := g.a.cell (n / 256)
      rw [ptrs_get _ _ _ hnear] at ha
      cases ht : tab (n / 256) with
      | none =>
        rw [ht] at ha
        have := g.n _ ht (n % 256) hm
        rw [hdm] at this
        rw [this]
        exact look_none bd bx ba l n w hn g.ll g.d g.x hnear ha
      | some c =>
        rw [ht] at ha
        have hb := g.c _ _ ht
        have hq := hb.cell (n % 256)
        rw [ptrs_get _ _ _ hm, hdm] at hq
        refine look_some bd bx ba l c n w hn g.ll g.d g.x hnear ha (cv_chunk hb (ptrs_size _ _)) (f n) hq ?_
        cases hf : f n with
        | none => exact cv_nil _ _ _ (by simp)
        | some a => exact cv_entry (he n a hf)
    · have := g.n _ (g.lt (n / 256) (by omega)) (n % 256) hm
      rw [hdm] at this
      rw [this]
      exact look_far bd bx ba l n w hn g.ll g.d g.x (by omega)
end Go.Proofs.Ybulkefuq
