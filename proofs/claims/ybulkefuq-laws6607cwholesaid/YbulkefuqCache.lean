/-
  (*entryCache).keep where nothing is forgotten.
-/
import Derived.Test.YbulkefuqFold
import Derived.Deep.RegionHeld3
namespace Go.Proofs.Ybulkefuq
open Go.RowKit
set_option linter.unusedSimpArgs false

theorem lt_of_shape {w : World} {b : Nat} {x : TypeId × Nat} (h : w.shape? b = some x) : b < w.heap.size := by
  unfold World.shape? at h
  split at h
  · rename_i h'; exact (Array.getElem?_eq_some_iff.1 h').1
  · cases h

/-- The cache's block. -/
def ecCells (s : Int) (bm : Nat) (bytes : Int) : Array Value := #[.int .i32 s, .int .u32 0, .map (some bm), .int .i64 bytes]

set_option maxHeartbeats 1000000 in
set_option maxRecDepth 100000 in
theorem ec_keep_stay (be bd bm rb m cr : Nat) (g : Nat → Nat) (S : Nat → Prop) (L : Option Nat) (f : Nat → Option Addr) (bytes size : Int) (w : World)
    (hec : Blk w be (ecCells 0 bm bytes) 66) (hm : m ≤ 4096) (hg : ∀ j, j < m → g j < 18446744073709551616) (hG : ∀ j, j < m → w.cell? ⟨rb, j * 4, none⟩ = some (.int .u64 (g j))) (hsh : w.shape? rb = some (70, m * 4))
    (hD : Dict w bd S L f) (hS : ∀ b, w.heap.size ≤ b → S b) (hSe : ¬ S be) (hSr : ¬ S rb) (hstay : ¬ (4194304 < wrap64 (bytes + size))) :
    Calls Yba.prog 8 #[.pointer (some ⟨be, 0, none⟩), .pointer (some ⟨bd, 0, none⟩), .slice (some ⟨rb, 0, none⟩) m cr, .int .i64 size] w fun e w' => e = .returned (.tuple #[]) ∧
      Blk w' be (ecCells 0 bm (wrap64 (bytes + size))) 66 ∧ Dict w' bd S (keepsL g L m) (keepsF rb g f m) ∧ Fr (fun b => b = be ∨ S b) w w' := by
  have h1 : w.cell? ⟨be, 0, none⟩ = some (.int .i32 0) := by rw [hec.cell]; rfl
  have hber : be ≠ rb := fun e => by subst e; have := hec.shape; rw [hsh] at this; simp at this
  have hdst : decide (4194304 < wrap64 (bytes + size)) = false := by simpa using hstay
  go_enter_defers Yba.func8, Yba.ntmps8
  go_wp2_with fail
  refine (Go.MuLone.lock_free muLib ⟨be, 0, none⟩ _ h1 (hec.frozen _)).mono ?_
  rintro e w1 ⟨rfl, hw1⟩
  have E1 : Blk w1 be (ecCells 1 bm bytes) 66 := by rw [hw1]; exact hec.set_same 0 _
  have F1 : Fr (fun b => b = be) w w1 := by rw [hw1]; exact (Fr.refl (fun b => b = be) w).setCell (p := ⟨be, 0, none⟩) rfl _
  have D1 : Dict w1 bd S L f := hD.fr F1 (fun b hb e => by subst e; exact hSe hb)
  have G1 : ∀ j, j < m → w1.cell? ⟨rb, j * 4, none⟩ = some (.int .u64 (g j)) := fun j hj => by rw [hw1, World.cell?_setCell_other _ _ _ _ (by simp [hber])]; exact hG j hj
  have S1 : w1.shape? rb = some (70, m * 4) := F1.shape _ _ (Or.inr rfl) hsh
  have O1 : ∀ b, w1.heap.size ≤ b → S b := fun b hb => hS b (Nat.le_trans F1.size hb)
  clear hw1 h1
  have c2 : w1.cell? ⟨be, 2, none⟩ = some (.map (some bm)) := by rw [E1.cell]; rfl
  have c3 : w1.cell? ⟨be, 3, none⟩ = some (.int .i64 bytes) := by rw [E1.cell]; rfl
  go_wp2_with fail
  go_loopw [43] (fun i wr => ∃ k : Nat, k ≤ m ∧ i = .int .i64 k ∧ Dict wr bd S (keepsL g (L) k) (keepsF rb g (f) k) ∧ Fr S w1 wr) (fun i _ => m - (intOf i).toNat)
  case atStart => exact ⟨0, Nat.zero_le _, rfl, D1, Fr.refl _ _⟩
  case round =>
    obtain ⟨k, hk, rfl, hDk, hFk⟩ := hrel
    by_cases hlt : k < m
    · have ck : wr.cell? ⟨rb, k * 4, none⟩ = some (.int .u64 (g k)) := by rw [World.cell?_of_block (w := w1) (hFk.keep rb (by have := S1; exact lt_of_shape this) hSr)]; exact G1 k hlt
      have sk : wr.shape? rb = some (70, m * 4) := hFk.shape _ _ (Or.inr rfl) S1
      have hgk := hg k hlt
      have hk0 : (0 : Int) ≤ (k : Int) := by omega
      have hkm : (k : Int) < (m : Int) := by omega
      have ek : EntOk wr.drew ⟨rb, k * 4 + 1, none⟩ := entOk_read sk k hlt
      have dk : Dict wr.drew bd S (keepsL g (L) k) (keepsF rb g (f) k) := hDk.fr (Fr.refl (fun _ => False) wr).drew (fun _ _ h => h)
      have ok : ∀ b, wr.drew.heap.size ≤ b → S b := fun b hb => O1 b (Nat.le_trans hFk.size hb)
      go_wp2_with fail
      go_region_held3 (fun w' => True ∧ w'.cell? ⟨rb, k * 4, none⟩ = some (.int .u64 (g k))) (first | (refine ⟨trivial, ?_⟩; rw [World.cell?_of_block (w := wr) (hfd.keep rb (lt_of_shape sk) hSr)]; exact ck) | go_keep)
        (first | (go_at_call 17; refine (keep_any dk ok (g k) hgk _ ek).mono ?_; rintro e w2 ⟨rfl, hD2, hfd⟩))
      go_wp2
      go_roundw
      case rel =>
        exact ⟨k + 1, by omega, by go_num, hD2, hFk.trans ((Fr.refl S wr).drew.trans hfd)⟩
      case measure => simp [intOf]; omega
    · have hkm : k = m := by omega
      subst hkm
      have Ek : Blk wr be (ecCells 1 bm (bytes)) 66 := hFk.blk E1 hSe
      have c3' : wr.cell? ⟨be, 3, none⟩ = some (.int .i64 (bytes)) := by rw [Ek.cell]; rfl
      have z3' : wr.frozen? ⟨be, 3, none⟩ = false := Ek.frozen _
      go_wp2_with fail
      refine leaves_cons (f := 10) (args := #[.pointer (some ⟨be, 0, none⟩)]) (by simp) (by simp [go_sem]) ?_
      have Ek2 := Ek.set_same 3 (.int .i64 (wrap64 (bytes + size)))
      refine (Go.MuLone.unlock_deferred muLib ⟨be, 0, none⟩ .returning _ (by rw [Ek2.cell]; rfl) (Ek2.frozen _)).mono ?_
      rintro e u' w'' ⟨rfl, rfl, rfl⟩
      refine ⟨_, results_none rfl _ _ _, rfl, Ek2.set_same 0 _, ?_, ?_⟩
      · refine ((hDk.fr (S' := fun b => b = be) ((Fr.refl (fun b => b = be) wr).setCell (p := ⟨be, 3, none⟩) rfl _) (fun b hb e => hSe (e ▸ hb))).fr (S' := fun b => b = be) ((Fr.refl (fun b => b = be) _).setCell (p := ⟨be, 0, none⟩) rfl _) (fun b hb e => hSe (e ▸ hb)))
      · exact ((((F1.mono fun b hb => Or.inl hb).trans (hFk.mono fun b hb => Or.inr hb)).setCell (p := ⟨be, 3, none⟩) (Or.inl rfl) _).setCell (p := ⟨be, 0, none⟩) (Or.inl rfl) _)
end Go.Proofs.Ybulkefuq
