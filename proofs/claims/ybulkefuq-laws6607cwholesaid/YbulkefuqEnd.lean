/-
  For the law's checks: the map's look-up, two pointers compared.
-/
import Derived.Test.YbulkefuqPost
import Derived.Deep.QuietTactic
import Derived.BigQuiet
namespace Go.Proofs.Ybulkefuq
open Go.RowKit Go.Maps

theorem look_map {w : World} {bm n : Nat} {D : DataW Unit} {M : Nat → Option Nat} (h : w.ownsMap Yba.prog 38 ptrElem bm n D) (hM : MapIs D M) (k : Nat) (hk : k < 18446744073709551616) :
    (Instr.lookup 58 (.map (some bm)) (.int .u64 k) false).run Yba.prog w = .ok (ptrVal (M k)) w := by
  obtain ⟨v, ps, hrun, hv⟩ := h.lookup law38 Yba.underlying58 (zero24 w) (zd := .nil) (zp := []) rfl (key_mk k hk)
  obtain ⟨c, rfl⟩ := ptrElem_inv v _ hv
  rw [ptrElem_mk] at hv
  have h1 : ptrDat c = D.atKey (.int .u64 k) .nil := by
    have := Option.some.inj hv
    exact congrArg Prod.fst this
  rw [hM.2 k] at h1
  have : c = M k := by
    cases hk' : M k with
    | none =>
      rw [hk'] at h1
      exact ptrDat_inj (d := none) h1
    | some b =>
      rw [hk'] at h1
      exact ptrDat_inj (d := some b) h1
  rw [← this]
  exact hrun

theorem neq_same (t : TypeId) (ht : t = 24 ∨ t = 25 ∨ t = 44) (q : Option Addr) (w : World) : (binOp .neq t (.pointer q) (.pointer q)).run Yba.prog w = .ok (.bool false) w := by
  cases q with
  | none => rcases ht with rfl | rfl | rfl <;> kernel_rfl
  | some a =>
    rcases ht with rfl | rfl | rfl
    · obtain ⟨j, hj⟩ : ∃ j, Yba.prog.info? 34 = some j := Option.isSome_iff_exists.1 (by kernel_rfl)
      exact Go.Lib.run_neq_ptr_same w a Yba.underlying24 hj
    · obtain ⟨j, hj⟩ : ∃ j, Yba.prog.info? 36 = some j := Option.isSome_iff_exists.1 (by kernel_rfl)
      exact Go.Lib.run_neq_ptr_same w a Yba.underlying25 hj
    · obtain ⟨j, hj⟩ : ∃ j, Yba.prog.info? 54 = some j := Option.isSome_iff_exists.1 (by kernel_rfl)
      exact Go.Lib.run_neq_ptr_same w a Yba.underlying44 hj

/-- the table's length, as the law reckons it -/
def optL (isn : Bool) (lv : Nat) : Option Nat := if isn then none else some lv

theorem optL_start (k : Nat) (gone : Bool) (L : Option Nat) (hL : L = if k = 0 then none else some (k - 1)) : (if gone = true then none else L) = optL (((k : Int) == 0) || gone) (if gone = true then 0 else k - 1) := by
  cases gone with
  | true => simp [optL]
  | false =>
    rw [hL]
    by_cases h : k = 0
    · subst h; rfl
    · have : ((k : Int) == 0) = false := by simp; omega
      rw [this, if_neg h]
      rfl
theorem optL_big {isn : Bool} {lv n : Nat} (h : 16777216 < n) : keepL (optL isn lv) n = optL isn lv := by
  unfold keepL
  rw [if_pos h]
theorem optL_stay {lv n : Nat} (h : n ≤ 16777216) (hl : n / 256 < lv) : keepL (optL false lv) n = optL false lv := by
  unfold keepL optL
  rw [if_neg (by omega)]
  simp
  omega
theorem optL_grow {isn : Bool} {lv n mx : Nat} (h : n ≤ 16777216) (hl : isn = true ∨ lv ≤ n / 256) (hmx : mx = max (n / 256 + 1) (2 * (n / 256))) : keepL (optL isn lv) n = optL false mx := by
  unfold keepL optL
  rw [if_neg (by omega), hmx]
  cases isn with
  | true => simp
  | false =>
    have : lv ≤ n / 256 := by simpa using hl
    simp [this]

/-- what is kept is what the law wants -/
theorem kept_want (rb : Nat) (g : Nat → Nat) (n : Nat) (pn : Nat → Nat) (pe : Nat → Option Addr) (m2 : Nat) (gone : Bool) (f : Nat → Option Addr) (hf : ∀ p, f p = (lastTo pn p m2).bind pe) (p : Nat) :
    keepsF rb g (if gone = true then fun _ => none else f) n p = wantF rb g n pn pe m2 gone p := by
  rw [keepsF_eq]
  unfold wantF want2F
  cases gone with
  | true => simp
  | false => simp [hf p]

/-- the dictionary's table, loaded -/
theorem dict_load {w : World} {bd : Nat} {S : Nat → Prop} {isx : Bool} {lx : Nat} {f : Nat → Option Addr} (h : Dict w bd S (optL isx lx) f) :
    ∃ q, w.cell? ⟨bd, 0, none⟩ = some (.pointer q) ∧ (convert 29 25 (.pointer q)).run Yba.prog w = .ok (.pointer q) w ∧ (isx = true → q = none) ∧ (isx = false → ∃ bx ba, q = some ⟨bx, 0, none⟩ ∧ w.cell? ⟨bx, 0, none⟩ = some (.slice (some ⟨ba, 0, none⟩) lx lx)) := by
  obtain ⟨_, _, h3⟩ := h
  cases isx with
  | true => exact ⟨none, by rw [h3.1.cell]; rfl, cv_nil _ _ _ (by simp), fun _ => rfl, fun h => by cases h⟩
  | false =>
    obtain ⟨bx, ba, tab, g, _⟩ := h3
    exact ⟨some ⟨bx, 0, none⟩, by rw [g.d.cell]; rfl, cv_chunks g.x rfl, fun h => (by cases h), fun _ => ⟨bx, ba, rfl, by rw [g.x.cell]; rfl⟩⟩

theorem Fr.drewN {S : Nat → Prop} {a w : World} (h : Fr S a w) (n : Nat) : Fr S a (w.drewN n) := ⟨h.os, h.tape, h.output, h.size, h.keep, h.shape⟩

theorem KeepDone.drewN {w wk : World} {bd be bm bo bE rb m n : Nat} {wb : Int} {cl : Bool} {Lk : Option Nat} {fk : Nat → Option Addr} {ob : Nat → Nat} {oe : Nat → Addr} {D : DataW Unit} {vN vE : Value} {m2 : Nat} {pn : Nat → Nat} {pe : Nat → Option Addr} {g tb : Nat → Nat}
    (h : KeepDone w wk bd be bm bo bE rb m n wb cl Lk fk ob oe D vN vE m2 pn pe g tb) (q : Nat) : KeepDone w (wk.drewN q) bd be bm bo bE rb m n wb cl Lk fk ob oe D vN vE m2 pn pe g tb :=
  h.ec' ((Fr.refl (fun b => b = be) wk).drewN q) h.ec

theorem look_q {w : World} {bd : Nat} {S : Nat → Prop} {L : Option Nat} {f : Nat → Option Addr} (h : Dict w bd S L f) (n : Nat) (hn : n < 18446744073709551616) (q : Nat) :
    Calls Yba.prog 12 #[.pointer (some ⟨bd, 0, none⟩), .int .u64 n] (w.drewN q) fun e w' => e = .returned (.pointer (f n)) ∧ w' = w.drewN q :=
  (look_any (h.fr ((Fr.refl (fun _ => False) w).drewN q) (fun _ _ h => h)) n hn).mono fun _ _ ⟨h1, h2⟩ => ⟨h1, h2.symm⟩
end Go.Proofs.Ybulkefuq
