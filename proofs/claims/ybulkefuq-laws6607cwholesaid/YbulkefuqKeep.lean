/-
  (*dictionary).keep.
-/
import Derived.Test.YbulkefuqPlain
import Derived.Deep.RegionHeld3
namespace Go.Proofs.Ybulkefuq
open Go.RowKit

theorem zero49 (w : World) : (zeroValue 49).run Yba.prog w = .ok (.agg chunk0) w := by kernel_rfl

set_option maxRecDepth 100000 in
theorem keep_big (bd n : Nat) (v : Value) (w : World) (_hn : n < 18446744073709551616) (_h : 16777216 < n) :
    Calls Yba.prog 17 #[.pointer (some ⟨bd, 0, none⟩), .int .u64 n, v] w fun e w' => e = .returned (.tuple #[]) ∧ w = w' := by
  go_enter Yba.func17, Yba.ntmps17
  go_wp2
  first | go_end0 | refine bodyPost_ret (results_none rfl _ _ _) rfl ?_
  exact ⟨rfl, rfl⟩

set_option maxRecDepth 100000 in
/-- the chunk is there -/
theorem keep_there (bd bx ba l c n : Nat) (e : Addr) (w : World) (_hn : n ≤ 16777216) (_hl : l ≤ 131072) (_hnear : n / 256 < l) (h : Blk w bd #[.pointer (some ⟨bx, 0, none⟩), .nilFunc] 34) (hx : Blk w bx #[.slice (some ⟨ba, 0, none⟩) l l] 36)
    (ha : w.cell? ⟨ba, n / 256, none⟩ = some (.pointer (some ⟨c, 0, none⟩))) (hcv4 : (convert 29 39 (.pointer (some ⟨c, 0, none⟩))).run Yba.prog w = .ok (.pointer (some ⟨c, 0, none⟩)) w)
    (q : Value) (hq : w.cell? ⟨c, n % 256, none⟩ = some q) (hz : w.frozen? ⟨c, n % 256, none⟩ = false) (hcvq : (convert 44 29 (.pointer (some e))).run Yba.prog w = .ok (.pointer (some e)) w) :
    Calls Yba.prog 17 #[.pointer (some ⟨bd, 0, none⟩), .int .u64 n, .pointer (some e)] w fun en w' => en = .returned (.tuple #[]) ∧ w' = w.setCell ⟨c, n % 256, none⟩ (.pointer (some e)) := by
  have hc : w.cell? ⟨bd, 0, none⟩ = some (.pointer (some ⟨bx, 0, none⟩)) := by rw [h.cell]; rfl
  have hcx : w.cell? ⟨bx, 0, none⟩ = some (.slice (some ⟨ba, 0, none⟩) l l) := by rw [hx.cell]; rfl
  have hcv := cv_chunks hx rfl
  go_enter Yba.func17, Yba.ntmps17
  go_wp2_with (go_at_call 11; refine (load11 _ _ _ hc hcv).mono ?_; rintro e w' ⟨rfl, rfl⟩)
  refine (load4 _ _ _ ha hcv4).mono ?_
  rintro e w' ⟨rfl, rfl⟩
  go_wp2_with fail
  refine (store6 _ _ _ _ hq hz hcvq).mono ?_
  rintro e w' ⟨rfl, rfl⟩
  go_wp2
  first | go_end0 | refine bodyPost_ret (results_none rfl _ _ _) rfl ?_
  exact ⟨rfl, rfl⟩

set_option maxRecDepth 100000 in
/-- the table is long enough, the chunk is not there -/
theorem keep_chunk (bd bx ba l n : Nat) (tab : Nat → Option Nat) (f : Nat → Option Addr) (e1 : Addr) (w : World) (_hn : n ≤ 16777216) (_hnear : n / 256 < l) (g : DictAt w bd bx ba l tab f) (ht : tab (n / 256) = none) (he : EntOk w e1) :
    Calls Yba.prog 17 #[.pointer (some ⟨bd, 0, none⟩), .int .u64 n, .pointer (some e1)] w fun en w' => en = .returned (.tuple #[]) ∧
      w' = ((w.alloc (.cells chunk0 49)).setCell ⟨ba, n / 256, none⟩ (.pointer (some ⟨w.heap.size, 0, none⟩))).setCell ⟨w.heap.size, n % 256, none⟩ (.pointer (some e1)) := by
  have _hl := g.ll
  have hc : w.cell? ⟨bd, 0, none⟩ = some (.pointer (some ⟨bx, 0, none⟩)) := by rw [g.d.cell]; rfl
  have hcx : w.cell? ⟨bx, 0, none⟩ = some (.slice (some ⟨ba, 0, none⟩) l l) := by rw [g.x.cell]; rfl
  have ha : w.cell? ⟨ba, n / 256, none⟩ = some (.pointer none) := by rw [g.a.cell, ptrs_get _ _ _ _hnear, ht]; rfl
  have hcv := cv_chunks g.x rfl
  have hz49 := zero49
  have hbx := g.x.lt
  have hba := g.a.lt
  have B1 := g.a.alloc (.cells chunk0 49)
  have B2 := Blk.new w chunk0 49
  go_enter Yba.func17, Yba.ntmps17
  go_wp2_with (go_at_call 11; refine (load11 _ _ _ hc hcv).mono ?_; rintro e w' ⟨rfl, rfl⟩)
  refine (load4 _ _ _ ha (cv_nil _ _ _ (by simp))).mono ?_
  rintro e w' ⟨rfl, rfl⟩
  go_wp2_with fail
  refine (store5 _ _ (.pointer none) _ (by rw [B1.cell, ptrs_get _ _ _ _hnear, ht]; rfl) (B1.frozen _) (cv_chunk' B2 (ptrs_size _ _))).mono ?_
  rintro e w2 ⟨rfl, hw2⟩
  have H2 : Hid (w2 = (w.alloc (.cells chunk0 49)).setCell ⟨ba, n / 256, none⟩ (.pointer (some ⟨w.heap.size, 0, none⟩))) := hw2
  clear hw2
  have B3 : Blk w2 w.heap.size chunk0 49 := by rw [H2.out]; exact B2.set_other (by omega) _ _
  have he2 : EntOk w2 e1 := by rw [H2.out]; exact he.fr (((Fr.refl (fun _ => True) w).alloc _).setCell trivial _)
  have hm : n % 256 < 256 := Nat.mod_lt _ (by omega)
  go_wp2_with fail
  refine (store6 _ _ (.pointer none) _ (by rw [B3.cell]; exact ptrs_get _ _ _ hm) (B3.frozen _) (cv_entry' he2)).mono ?_
  rintro e w3 ⟨rfl, rfl⟩
  go_wp2
  first | go_end0 | refine bodyPost_ret (results_none rfl _ _ _) rfl ?_
  exact ⟨rfl, by rw [H2.out]⟩

/-- The new table's length. -/
def NewLen (n L : Nat) : Prop := (L = n / 256 + 1 ∧ 2 * (n / 256) ≤ n / 256 + 1) ∨ (L = 2 * (n / 256) ∧ n / 256 + 1 < 2 * (n / 256))

/-- A chunk made at number n's place, the entry put there. -/
def after (w1 : World) (A n : Nat) (e1 : Addr) : World :=
  ((w1.alloc (.cells chunk0 49)).setCell ⟨A, n / 256, none⟩ (.pointer (some ⟨w1.heap.size, 0, none⟩))).setCell ⟨w1.heap.size, n % 256, none⟩ (.pointer (some e1))

set_option maxHeartbeats 1000000 in
set_option maxRecDepth 100000 in
/-- no table yet -/
theorem keep_nil (bd n L : Nat) (f : Nat → Option Addr) (tab : Nat → Option Nat) (htab : tab = fun _ => none) (hf : ∀ n, f n = none) (e1 : Addr) (w : World) (_hn : n ≤ 16777216) (hL : NewLen n L) (g : Blk w bd #[.pointer none, .nilFunc] 34) (he : EntOk w e1) :
    Calls Yba.prog 17 #[.pointer (some ⟨bd, 0, none⟩), .int .u64 n, .pointer (some e1)] w fun en w' => en = .returned (.tuple #[]) ∧
      ∃ w1 A X, DictAt w1 bd X A L tab f ∧ Fr (fun b => b = bd ∨ w.heap.size ≤ b) w w1 ∧ (w.heap.size ≤ A ∧ w.heap.size ≤ X) ∧ w' = after w1 A n e1 := by
  subst htab
  generalize htab : (fun _ => none : Nat → Option Nat) = tab
  have htn : ∀ i, tab i = none := fun i => by rw [← htab]
  have hc : w.cell? ⟨bd, 0, none⟩ = some (.pointer none) := by rw [g.cell]; rfl
  have hbd := g.lt
  have hnear : n / 256 < L := by unfold NewLen at hL; omega
  have hLb : L ≤ 131072 := by unfold NewLen at hL; omega
  have hmk := make36 .u64 L (by unfold NewLen at hL; omega)
  have A1 := (Blk.new w (ptrs L fun _ => none) 42).alloc (.cells #[.slice (some ⟨w.heap.size, 0, none⟩) L L] 36)
  have X1 : Blk ((w.alloc (.cells (ptrs L fun _ => none) 42)).alloc (.cells #[.slice (some ⟨w.heap.size, 0, none⟩) L L] 36)) (w.heap.size + 1) #[.slice (some ⟨w.heap.size, 0, none⟩) L L] 36 := by
    have := Blk.new (w.alloc (.cells (ptrs L fun _ => none) 42)) #[.slice (some ⟨w.heap.size, 0, none⟩) L L] 36
    simpa using this
  have D1 := (g.alloc (.cells (ptrs L fun _ => none) 42)).alloc (.cells #[.slice (some ⟨w.heap.size, 0, none⟩) L L] 36)
  rcases hL with ⟨hL, hmax⟩ | ⟨hL, hmax⟩
  · rw [show (L : Int) = (n : Int) / 256 + 1 from by omega] at hmk
    clear hL
    go_enter Yba.func17, Yba.ntmps17
    go_wp2_with (go_at_call 11; refine (load11 _ none _ hc (cv_nil _ _ _ (by simp))).mono ?_; rintro e w' ⟨rfl, rfl⟩)
    refine (store7 _ _ (.pointer none) _ (by rw [D1.cell]; rfl) (D1.frozen _) (cv_chunks' X1 rfl)).mono ?_
    rintro e w1 ⟨rfl, hw1⟩
    obtain ⟨A, hA⟩ : ∃ A, A = w.heap.size := ⟨_, rfl⟩
    obtain ⟨X, hX⟩ : ∃ X, X = w.heap.size + 1 := ⟨_, rfl⟩
    have g1 : DictAt w1 bd X A L tab f := by
      rw [hw1, hA, hX]
      rw [← htab]
      exact DictAt.made (by omega) hf (D1.set_same _ _) (X1.set_other (by omega) _ _) (A1.set_other (by omega) _ _)
    have hfr : Fr (fun b => b = bd ∨ w.heap.size ≤ b) w w1 := by
      rw [hw1]
      exact (((Fr.refl _ w).alloc _).alloc _).setCell (Or.inl rfl) _
    have he1 := he.fr hfr
    have ht : tab (n / 256) = none := htn _
    rw [← hX, ← hA]
    have HF : Hid (Fr (fun b => b = bd ∨ w.heap.size ≤ b) w w1) := hfr
    have HA : Hid (w.heap.size ≤ A ∧ w.heap.size ≤ X) := by constructor <;> omega
    clear hw1 hA hX hfr hc D1 X1 A1 hmk
    have _hl := g1.ll
    have hcx : w1.cell? ⟨X, 0, none⟩ = some (.slice (some ⟨A, 0, none⟩) L L) := by rw [g1.x.cell]; rfl
    have ha : w1.cell? ⟨A, n / 256, none⟩ = some (.pointer none) := by rw [g1.a.cell, ptrs_get _ _ _ hnear, ht]; rfl
    have hz49 := zero49
    have hbx := g1.x.lt
    have hba := g1.a.lt
    have B1 := g1.a.alloc (.cells chunk0 49)
    have B2 := Blk.new w1 chunk0 49
    have HX : Hid (DictAt w1 bd X A L tab f) := g1
    go_wp2_with fail
    refine (load4 _ _ _ ha (cv_nil _ _ _ (by simp))).mono ?_
    rintro e w' ⟨rfl, rfl⟩
    go_wp2_with fail
    refine (store5 _ _ (.pointer none) _ (by rw [B1.cell, ptrs_get _ _ _ hnear, ht]; rfl) (B1.frozen _) (cv_chunk' B2 (ptrs_size _ _))).mono ?_
    rintro e w2 ⟨rfl, hw2⟩
    have H2 : Hid (w2 = (w1.alloc (.cells chunk0 49)).setCell ⟨A, n / 256, none⟩ (.pointer (some ⟨w1.heap.size, 0, none⟩))) := hw2
    clear hw2
    have B3 : Blk w2 w1.heap.size chunk0 49 := by rw [H2.out]; exact B2.set_other (by omega) _ _
    have he2 : EntOk w2 e1 := by rw [H2.out]; exact he1.fr (((Fr.refl (fun _ => True) w1).alloc _).setCell trivial _)
    have hm : n % 256 < 256 := Nat.mod_lt _ (by omega)
    go_wp2_with fail
    refine (store6 _ _ (.pointer none) _ (by rw [B3.cell]; exact ptrs_get _ _ _ hm) (B3.frozen _) (cv_entry' he2)).mono ?_
    rintro e w3 ⟨rfl, rfl⟩
    go_wp2
    first | go_end0 | refine bodyPost_ret (results_none rfl _ _ _) rfl ?_
    exact ⟨rfl, w1, A, X, HX.out, HF.out, HA.out, by rw [H2.out]; rfl⟩
  · rw [show (L : Int) = 2 * ((n : Int) / 256) from by omega] at hmk
    clear hL
    go_enter Yba.func17, Yba.ntmps17
    go_wp2_with (go_at_call 11; refine (load11 _ none _ hc (cv_nil _ _ _ (by simp))).mono ?_; rintro e w' ⟨rfl, rfl⟩)
    refine (store7 _ _ (.pointer none) _ (by rw [D1.cell]; rfl) (D1.frozen _) (cv_chunks' X1 rfl)).mono ?_
    rintro e w1 ⟨rfl, hw1⟩
    obtain ⟨A, hA⟩ : ∃ A, A = w.heap.size := ⟨_, rfl⟩
    obtain ⟨X, hX⟩ : ∃ X, X = w.heap.size + 1 := ⟨_, rfl⟩
    have g1 : DictAt w1 bd X A L tab f := by
      rw [hw1, hA, hX]
      rw [← htab]
      exact DictAt.made (by omega) hf (D1.set_same _ _) (X1.set_other (by omega) _ _) (A1.set_other (by omega) _ _)
    have hfr : Fr (fun b => b = bd ∨ w.heap.size ≤ b) w w1 := by
      rw [hw1]
      exact (((Fr.refl _ w).alloc _).alloc _).setCell (Or.inl rfl) _
    have he1 := he.fr hfr
    have ht : tab (n / 256) = none := htn _
    rw [← hX, ← hA]
    have HF : Hid (Fr (fun b => b = bd ∨ w.heap.size ≤ b) w w1) := hfr
    have HA : Hid (w.heap.size ≤ A ∧ w.heap.size ≤ X) := by constructor <;> omega
    clear hw1 hA hX hfr hc D1 X1 A1 hmk
    have _hl := g1.ll
    have hcx : w1.cell? ⟨X, 0, none⟩ = some (.slice (some ⟨A, 0, none⟩) L L) := by rw [g1.x.cell]; rfl
    have ha : w1.cell? ⟨A, n / 256, none⟩ = some (.pointer none) := by rw [g1.a.cell, ptrs_get _ _ _ hnear, ht]; rfl
    have hz49 := zero49
    have hbx := g1.x.lt
    have hba := g1.a.lt
    have B1 := g1.a.alloc (.cells chunk0 49)
    have B2 := Blk.new w1 chunk0 49
    have HX : Hid (DictAt w1 bd X A L tab f) := g1
    go_wp2_with fail
    refine (load4 _ _ _ ha (cv_nil _ _ _ (by simp))).mono ?_
    rintro e w' ⟨rfl, rfl⟩
    go_wp2_with fail
    refine (store5 _ _ (.pointer none) _ (by rw [B1.cell, ptrs_get _ _ _ hnear, ht]; rfl) (B1.frozen _) (cv_chunk' B2 (ptrs_size _ _))).mono ?_
    rintro e w2 ⟨rfl, hw2⟩
    have H2 : Hid (w2 = (w1.alloc (.cells chunk0 49)).setCell ⟨A, n / 256, none⟩ (.pointer (some ⟨w1.heap.size, 0, none⟩))) := hw2
    clear hw2
    have B3 : Blk w2 w1.heap.size chunk0 49 := by rw [H2.out]; exact B2.set_other (by omega) _ _
    have he2 : EntOk w2 e1 := by rw [H2.out]; exact he1.fr (((Fr.refl (fun _ => True) w1).alloc _).setCell trivial _)
    have hm : n % 256 < 256 := Nat.mod_lt _ (by omega)
    go_wp2_with fail
    refine (store6 _ _ (.pointer none) _ (by rw [B3.cell]; exact ptrs_get _ _ _ hm) (B3.frozen _) (cv_entry' he2)).mono ?_
    rintro e w3 ⟨rfl, rfl⟩
    go_wp2
    first | go_end0 | refine bodyPost_ret (results_none rfl _ _ _) rfl ?_
    exact ⟨rfl, w1, A, X, HX.out, HF.out, HA.out, by rw [H2.out]; rfl⟩
end Go.Proofs.Ybulkefuq
