/-
  The entries read, kept one after the other: plain.
-/
import Derived.Test.YbulkefuqKeepAny
import Derived.Test.YbulkefuqWant
namespace Go.Proofs.Ybulkefuq
open Go.RowKit

def keepsL (g : Nat → Nat) (L : Option Nat) : Nat → Option Nat
  | 0 => L
  | k + 1 => keepL (keepsL g L k) (g k)
def keepsF (rb : Nat) (g : Nat → Nat) (f : Nat → Option Addr) : Nat → Nat → Option Addr
  | 0 => f
  | k + 1 => keepF (keepsF rb g f k) (g k) ⟨rb, k * 4 + 1, none⟩

/-- What is kept in the end: the last entry read of that number, else what was there. -/
theorem keepsF_eq (rb : Nat) (g : Nat → Nat) (f : Nat → Option Addr) (p : Nat) : ∀ m, keepsF rb g f m p = if p ≤ 16777216 then ((lastTo g p m).map fun i => (⟨rb, i * 4 + 1, none⟩ : Addr)).or (f p) else f p
  | 0 => by
    unfold keepsF lastTo
    simp
  | k + 1 => by
    have ih := keepsF_eq rb g f p k
    unfold keepsF keepF lastTo
    by_cases hb : 16777216 < g k
    · rw [if_pos hb, ih]
      by_cases hp : p ≤ 16777216
      · rw [if_pos hp, if_pos hp, if_neg (by omega)]
      · rw [if_neg hp, if_neg hp]
    · rw [if_neg hb]
      by_cases hpk : p = g k
      · subst hpk
        rw [if_pos rfl, if_pos (by omega), if_pos rfl]
        rfl
      · have hpk' : ¬ g k = p := fun h => hpk h.symm
        rw [if_neg hpk, ih]
        simp only [if_neg hpk']

/-- An entry inside a 'numbered'. -/
theorem lies_numbered (m i : Nat) (h : i < m) : liesAt Yba.prog Yba.prog.depth 70 m (i * 4 + 1) 54 1 = true := by
  have hd : Yba.prog.depth = (Yba.prog.depth - 1) + 1 := by kernel_rfl
  have hrow : rowAt Yba.prog (sameLayout Yba.prog Yba.prog.depth · 54) Yba.prog.depth 70 m (i * 4 + 1) 1 = true := by
    have hs : Yba.prog.cellsOf 70 = 4 := by kernel_rfl
    have hu := Yba.underlying70
    conv => lhs; arg 3; rw [hd]
    unfold rowAt
    rw [hs]
    have h1 : (i * 4 + 1) / 4 = i := by omega
    have h2 : (i * 4 + 1) % 4 = 1 := by omega
    simp only [h1, h2, hu]
    have hst : Yba.prog.stoodInHeld 70 = false := by kernel_rfl
    have hr : rowAt Yba.prog (sameLayout Yba.prog Yba.prog.depth · 54) (Yba.prog.depth - 1) 54 1 0 1 = true := by kernel_rfl
    have hc : Yba.prog.cellsOf 54 = 3 := by kernel_rfl
    simp [hst, h]
    right
    exact ⟨by rw [hc]; omega, hr⟩
  rw [hd]
  unfold liesAt
  rw [hrow]
  rfl

theorem entOk_read {w : World} {rb m : Nat} (h : w.shape? rb = some (70, m * 4)) (i : Nat) (hi : i < m) : EntOk w ⟨rb, i * 4 + 1, none⟩ :=
  ⟨70, m * 4, Or.inr rfl, h, by show i * 4 + 1 < m * 4; omega, by
    have hs : Yba.prog.cellsOf 70 = 4 := by kernel_rfl
    rw [hs, Nat.mul_div_cancel _ (by omega)]
    exact lies_numbered m i hi⟩
end Go.Proofs.Ybulkefuq
