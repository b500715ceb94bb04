/-
  giveBack in one contract, whatever is kept and whoever waits.
-/
import Derived.Test.YbulkefvsBack
namespace Go.Proofs.Ybulkefvs
open Go.RowKit

/-- How many leave the line. -/
def outOf (turn : Bool) : Nat := if turn then 1 else 0
/-- Who holds the turn behind. -/
def heldOf (turn held : Bool) (n : Nat) : Bool := if turn = true ∧ n = 0 then false else held

theorem back_any (bd b bl n : Nat) (taken size next hashed far : Int) (ahead kept : Value) (held keeps turn : Bool) (w : World) (h : FetchAt w b 0 taken held (.slice (some ⟨bl, 0, none⟩) n n)) (hd : Blk w bd (dcells b size next hashed ahead far kept keeps turn) 62) (hbd : bd ≠ b)
    (hbig : n ≤ 65535) (hl : Blk w bl (chs bl n n) 25) (hc : 1 ≤ n → w.heap[bl + 1]? = some (.chan 0 #[] false 0 0 false)) (hne : bl < b) (hne1 : 1 ≤ n → bl + 1 < b) (hdl : b < bd) :
    Calls Yba.prog 5 #[.pointer (some ⟨bd, 0, none⟩)] w fun e w' => e = .returned (.tuple #[]) ∧ FetchAt w' b 0 (wrap64 (taken - roomOf far size keeps)) (heldOf turn held n) (.slice (some ⟨bl, 0, none⟩) (n - outOf turn) n) ∧
      Blk w' bd (dcells b size next hashed (.map none) 0 (.slice none 0 0) false false) 62 ∧ (∃ cs', Blk w' bl cs' 25 ∧ ∀ i, i < n - outOf turn → cs'[i]? = some (.chan (some (bl + 1 + (i + outOf turn))))) ∧ Fr (fun x => x = bd ∨ x = b ∨ x = bl ∨ (1 ≤ n ∧ x = bl + 1)) w w' := by
  have hfin : ∀ w', Blk w' bl (chs bl n n) 25 → n - outOf turn = n - 0 ∨ n = 0 → outOf turn = 0 ∨ n = 0 → ∃ cs', Blk w' bl cs' 25 ∧ ∀ i, i < n - outOf turn → cs'[i]? = some (.chan (some (bl + 1 + (i + outOf turn)))) := by
    intro w' hb _ h0
    refine ⟨_, hb, fun i hi => ?_⟩
    rcases h0 with h0 | h0
    · rw [h0, chs_get _ _ _ (by omega)]; simp
    · omega
  cases turn with
  | false =>
    cases keeps with
    | false =>
      refine (back_plain_false bd b taken size next hashed far ahead kept _ held w h hd hbd).mono ?_
      rintro e w' ⟨rfl, h1, h2, h3⟩
      exact ⟨rfl, by simpa [heldOf, outOf, roomOf] using h1, h2, hfin w' (h3.blk hl (by omega)) (Or.inl rfl) (Or.inl rfl), h3.mono fun x hx => by rcases hx with hx | hx <;> omega⟩
    | true =>
      refine (back_plain_true bd b taken size next hashed far ahead kept _ held w h hd hbd).mono ?_
      rintro e w' ⟨rfl, h1, h2, h3⟩
      exact ⟨rfl, by simpa [heldOf, outOf, roomOf] using h1, h2, hfin w' (h3.blk hl (by omega)) (Or.inl rfl) (Or.inl rfl), h3.mono fun x hx => by rcases hx with hx | hx <;> omega⟩
  | true =>
    by_cases hn : n = 0
    · subst hn
      cases keeps with
      | false =>
        refine (back_none_false bd b taken size next hashed far ahead kept held _ 0 w h hd hbd).mono ?_
        rintro e w' ⟨rfl, h1, h2, h3⟩
        exact ⟨rfl, by simpa [heldOf, outOf, roomOf] using h1, h2, hfin w' (h3.blk hl (by omega)) (Or.inr rfl) (Or.inr rfl), h3.mono fun x hx => by rcases hx with hx | hx <;> omega⟩
      | true =>
        refine (back_none_true bd b taken size next hashed far ahead kept held _ 0 w h hd hbd).mono ?_
        rintro e w' ⟨rfl, h1, h2, h3⟩
        exact ⟨rfl, by simpa [heldOf, outOf, roomOf] using h1, h2, hfin w' (h3.blk hl (by omega)) (Or.inr rfl) (Or.inr rfl), h3.mono fun x hx => by rcases hx with hx | hx <;> omega⟩
    · have hn1 : 1 ≤ n := by omega
      have := hne1 hn1
      cases keeps with
      | false =>
        refine (back_some_false bd b bl n taken size next hashed far ahead kept held w h hd hbd hn1 hbig hl (hc hn1) (by omega) (by omega) (by omega) (by omega)).mono ?_
        rintro e w' ⟨rfl, h1, h2, ⟨cs', k1, k2, k3⟩, h3⟩
        refine ⟨rfl, by simpa [heldOf, outOf, roomOf, hn] using h1, h2, ⟨cs', k1, fun i hi => ?_⟩, h3.mono fun x hx => by rcases hx with hx | hx | hx | hx <;> omega⟩
        have hi' : i < n - 1 := hi
        rw [k3 i hi', chs_get _ _ _ (by omega)]
        rfl
      | true =>
        refine (back_some_true bd b bl n taken size next hashed far ahead kept held w h hd hbd hn1 hbig hl (hc hn1) (by omega) (by omega) (by omega) (by omega)).mono ?_
        rintro e w' ⟨rfl, h1, h2, ⟨cs', k1, k2, k3⟩, h3⟩
        refine ⟨rfl, by simpa [heldOf, outOf, roomOf, hn] using h1, h2, ⟨cs', k1, fun i hi => ?_⟩, h3.mono fun x hx => by rcases hx with hx | hx | hx | hx <;> omega⟩
        have hi' : i < n - 1 := hi
        rw [k3 i hi', chs_get _ _ _ (by omega)]
        rfl

theorem want_eq (taken far size : Int) : wrap64 (wrap64 (taken - wrap64 (far * 16384)) - size) = wrap64 (taken - wrap64 (wrap64 (far * 16384) + size)) := by
  unfold wrap64
  omega
end Go.Proofs.Ybulkefvs
