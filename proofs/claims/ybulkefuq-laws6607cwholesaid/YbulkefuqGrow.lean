/-
  (*dictionary).keep where the table is too short.
-/
import Derived.Test.YbulkefuqKeep
namespace Go.Proofs.Ybulkefuq
open Go.RowKit

set_option maxHeartbeats 1000000 in
set_option maxRecDepth 100000 in
/-- the table is too short -/
theorem keep_grow (bd bx ba l n L : Nat) (f : Nat → Option Addr) (tab : Nat → Option Nat) (e1 : Addr) (w : World) (_hn : n ≤ 16777216) (hL : NewLen n L) (g : DictAt w bd bx ba l tab f) (hfar : l ≤ n / 256) (he : EntOk w e1) :
    Calls Yba.prog 17 #[.pointer (some ⟨bd, 0, none⟩), .int .u64 n, .pointer (some e1)] w fun en w' => en = .returned (.tuple #[]) ∧
      ∃ w1 A X, DictAt w1 bd X A L tab f ∧ Fr (fun b => b = bd ∨ w.heap.size ≤ b) w w1 ∧ (w.heap.size ≤ A ∧ w.heap.size ≤ X) ∧ w' = after w1 A n e1 := by
  have hl := g.ll
  have hc : w.cell? ⟨bd, 0, none⟩ = some (.pointer (some ⟨bx, 0, none⟩)) := by rw [g.d.cell]; rfl
  have hcx : w.cell? ⟨bx, 0, none⟩ = some (.slice (some ⟨ba, 0, none⟩) l l) := by rw [g.x.cell]; rfl
  have hcv := cv_chunks g.x rfl
  have hbd := g.d.lt
  have hbx := g.x.lt
  have hba := g.a.lt
  have hnear : n / 256 < L := by unfold NewLen at hL; omega
  have hLb : L ≤ 131072 := by unfold NewLen at hL; omega
  have hmk := make36 .u64 L (by unfold NewLen at hL; omega)
  obtain ⟨W0, hW0⟩ : ∃ W0, W0 = (w.alloc (.cells (ptrs L fun _ => none) 42)).alloc (.cells #[.slice (some ⟨w.heap.size, 0, none⟩) L L] 36) := ⟨_, rfl⟩
  have A1 : Blk W0 w.heap.size (ptrs L fun _ => none) 42 := by rw [hW0]; exact (Blk.new w (ptrs L fun _ => none) 42).alloc _
  have X1 : Blk W0 (w.heap.size + 1) #[.slice (some ⟨w.heap.size, 0, none⟩) L L] 36 := by
    have := Blk.new (w.alloc (.cells (ptrs L fun _ => none) 42)) #[.slice (some ⟨w.heap.size, 0, none⟩) L L] 36
    rw [hW0]
    simpa using this
  have d0 : Blk W0 bd #[.pointer (some ⟨bx, 0, none⟩), .nilFunc] 34 := by rw [hW0]; exact (g.d.alloc _).alloc _
  have x0 : Blk W0 bx #[.slice (some ⟨ba, 0, none⟩) l l] 36 := by rw [hW0]; exact (g.x.alloc _).alloc _
  have a0 : Blk W0 ba (ptrs l fun i => (tab i).map (⟨·, 0, none⟩)) 42 := by rw [hW0]; exact (g.a.alloc _).alloc _
  have c0 : ∀ i c, tab i = some c → Blk W0 c (ptrs 256 fun j => f (256 * i + j)) 49 := fun i c e => by rw [hW0]; exact ((g.c i c e).alloc _).alloc _
  have hdf : decide ((l : Int) ≤ (n : Int) / 256) = true := by simp; omega
  have hdn : decide ((16777216 : Int) < (n : Int)) = false := by simp; omega
  rcases hL with ⟨hL, hmax⟩ | ⟨hL, hmax⟩
  · rw [show (L : Int) = (n : Int) / 256 + 1 from by omega] at hmk
    clear hL
    go_enter Yba.func17, Yba.ntmps17
    go_wp2_with (go_at_call 11; refine (load11 _ _ _ hc hcv).mono ?_; rintro e w' ⟨rfl, rfl⟩)
    have HW : Hid (W0 = (w.alloc (.cells (ptrs L fun _ => none) 42)).alloc (.cells #[.slice (some ⟨w.heap.size, 0, none⟩) L L] 36)) := hW0
    rw [← hW0]
    clear hW0
    go_loopw [42] (fun i wr => ∃ k : Nat, k ≤ l ∧ i = .int .i64 k ∧ Blk wr w.heap.size (ptrs L fun j => if j < k then (tab j).map (⟨·, 0, none⟩) else none) 42 ∧ Fr (fun b => b = w.heap.size) W0 wr) (fun i _ => l - (intOf i).toNat)
    case atStart => exact ⟨0, Nat.zero_le _, rfl, by simpa using A1, Fr.refl _ _⟩
    case round =>
      obtain ⟨k, hk, rfl, hA, hfr⟩ := hrel
      by_cases hlt : k < l
      · have hX := hfr.blk X1 (by omega)
        have hx := hfr.blk x0 (by omega)
        have ha := hfr.blk a0 (by omega)
        have cX : wr.cell? ⟨w.heap.size + 1, 0, none⟩ = some (.slice (some ⟨w.heap.size, 0, none⟩) L L) := by rw [hX.cell]; rfl
        have cx : wr.cell? ⟨bx, 0, none⟩ = some (.slice (some ⟨ba, 0, none⟩) l l) := by rw [hx.cell]; rfl
        have csrc : wr.cell? ⟨ba, k, none⟩ = some (.pointer ((tab k).map (⟨·, 0, none⟩))) := by rw [ha.cell, ptrs_get _ _ _ hlt]
        have cdst : wr.cell? ⟨w.heap.size, k, none⟩ = some (.pointer none) := by rw [hA.cell, ptrs_get _ _ _ (by omega)]; simp
        have hk0 : (0 : Int) ≤ (k : Int) := by omega
        have hkl : (k : Int) < (l : Int) := by omega
        have hkL : (k : Int) < (L : Int) := by omega
        have hcq : (convert 29 39 (.pointer ((tab k).map (⟨·, 0, none⟩)))).run Yba.prog wr.drew = .ok (.pointer ((tab k).map (⟨·, 0, none⟩))) wr.drew := by
          cases ht : tab k with
          | none => exact cv_nil _ _ _ (by simp)
          | some c => exact cv_chunk (hfr.blk (c0 k c ht) (by have := (g.c k c ht).lt; omega)).drew (ptrs_size _ _)
        have hcq' : (convert 39 29 (.pointer ((tab k).map (⟨·, 0, none⟩)))).run Yba.prog wr.drew = .ok (.pointer ((tab k).map (⟨·, 0, none⟩))) wr.drew := by
          cases ht : tab k with
          | none => exact cv_nil _ _ _ (by simp)
          | some c => exact cv_chunk' (hfr.blk (c0 k c ht) (by have := (g.c k c ht).lt; omega)).drew (ptrs_size _ _)
        have kx : ∀ v, (wr.setCell ⟨w.heap.size, k, none⟩ v).cell? ⟨bx, 0, none⟩ = some (.slice (some ⟨ba, 0, none⟩) l l) := fun v => by rw [(hx.set_other (by omega) _ _).cell]; rfl
        go_wp2_with fail
        go_region_held3 (fun w' => w'.cell? ⟨w.heap.size + 1, 0, none⟩ = some (.slice (some ⟨w.heap.size, 0, none⟩) L L) ∧ w'.cell? ⟨bx, 0, none⟩ = some (.slice (some ⟨ba, 0, none⟩) l l)) (go_keep)
          (first | (go_at_call 4; refine (load4 _ ((tab k).map (⟨·, 0, none⟩)) _ ?_ ?_).mono ?_; (exact csrc); (exact hcq); rintro e w' ⟨rfl, rfl⟩) | (go_at_call 5; refine (store5 _ _ (.pointer none) _ ?_ ?_ ?_).mono ?_; (exact cdst); (exact hA.frozen _); (exact hcq'); rintro e w' ⟨rfl, rfl⟩))
        go_wp2
        go_roundw
        case rel =>
          refine ⟨k + 1, by omega, by go_num, ?_, (hfr.setCell rfl _).drew⟩
          have h := hA.set_same k (.pointer ((tab k).map (⟨·, 0, none⟩)))
          rw [ptrs_set] at h
          refine Blk.drew ?_
          rw [ptrs_congr (g := fun j => if j = k then (tab k).map (⟨·, 0, none⟩) else if j < k then (tab j).map (⟨·, 0, none⟩) else none) fun j _ => ?_]
          · exact h
          · by_cases e : j = k
            · subst e; simp
            · rw [if_neg e]
              by_cases e' : j < k
              · rw [if_pos e', if_pos (by omega)]
              · rw [if_neg e', if_neg (by omega)]
        case measure => simp [intOf]; omega
      · have hk' : k = l := by omega
        subst hk'
        have D1 := hfr.blk d0 (by omega)
        have X2 := hfr.blk X1 (by omega)
        have hbdr : bd < wr.heap.size := D1.lt
        go_wp2_with fail
        refine (store7 _ _ (.pointer (some ⟨bx, 0, none⟩)) _ (by rw [D1.cell]; rfl) (D1.frozen _) (cv_chunks' X2 rfl)).mono ?_
        rintro e w1 ⟨rfl, hw1⟩
        obtain ⟨A, hAA⟩ : ∃ A, A = w.heap.size := ⟨_, rfl⟩
        obtain ⟨X, hXX⟩ : ∃ X, X = w.heap.size + 1 := ⟨_, rfl⟩
        have g1 : DictAt w1 bd X A L tab f := by
          rw [hw1, hAA, hXX]
          refine g.moved (by omega) (by omega) (D1.set_same _ _) (X2.set_other (by omega) _ _) ?_ ?_
          · have h := hA.set_other (b' := bd) (by omega) 0 (.pointer (some ⟨w.heap.size + 1, 0, none⟩))
            rw [ptrs_congr (g := fun i => (tab i).map (⟨·, 0, none⟩)) fun j _ => ?_] at h
            · exact h
            · by_cases e' : j < k
              · rw [if_pos e']
              · rw [if_neg e', g.lt j (by omega)]; rfl
          · intro b cs hb
            have hb0 : Blk W0 b cs 49 := by rw [HW.out]; exact (hb.alloc _).alloc _
            have hbl := hb.lt
            have hbn := hb.ne g.d (by decide)
            exact (hfr.blk hb0 (by omega)).set_other hbn _ _
        have hfr1 : Fr (fun b => b = bd ∨ w.heap.size ≤ b) w w1 := by
          rw [hw1]
          have h0 : Fr (fun b => b = bd ∨ w.heap.size ≤ b) w W0 := by rw [HW.out]; exact ((Fr.refl _ w).alloc _).alloc _
          exact (h0.trans (hfr.mono (fun b hb => Or.inr (by omega)))).setCell (Or.inl rfl) _
        have he1 := he.fr hfr1
        have ht : tab (n / 256) = none := g.lt _ hfar
        rw [← hXX, ← hAA]
        have HF : Hid (Fr (fun b => b = bd ∨ w.heap.size ≤ b) w w1) := hfr1
        have HA : Hid (w.heap.size ≤ A ∧ w.heap.size ≤ X) := by constructor <;> omega
        clear hw1 hAA hXX hfr1 hc D1 X2 X1 A1 hmk hA hfr d0 x0 a0 c0 hcx hcv
        clear HW
        have _hl := g1.ll
        have hcx : w1.cell? ⟨X, 0, none⟩ = some (.slice (some ⟨A, 0, none⟩) L L) := by rw [g1.x.cell]; rfl
        have ha : w1.cell? ⟨A, n / 256, none⟩ = some (.pointer none) := by rw [g1.a.cell, ptrs_get _ _ _ hnear, ht]; rfl
        have hz49 := zero49
        have hbx := g1.x.lt
        have hba := g1.a.lt
        have B1 := g1.a.alloc (.cells chunk0 49)
        have B2 := Blk.new w1 chunk0 49
        have HX : Hid (DictAt w1 bd X A L tab f) := g1
        go_wp2_with fail
        refine (load4 _ _ _ ha (cv_nil _ _ _ (by simp))).mono ?_
        rintro e w' ⟨rfl, rfl⟩
        go_wp2_with fail
        refine (store5 _ _ (.pointer none) _ (by rw [B1.cell, ptrs_get _ _ _ hnear, ht]; rfl) (B1.frozen _) (cv_chunk' B2 (ptrs_size _ _))).mono ?_
        rintro e w2 ⟨rfl, hw2⟩
        have H2 : Hid (w2 = (w1.alloc (.cells chunk0 49)).setCell ⟨A, n / 256, none⟩ (.pointer (some ⟨w1.heap.size, 0, none⟩))) := hw2
        clear hw2
        have B3 : Blk w2 w1.heap.size chunk0 49 := by rw [H2.out]; exact B2.set_other (by omega) _ _
        have he2 : EntOk w2 e1 := by rw [H2.out]; exact he1.fr (((Fr.refl (fun _ => True) w1).alloc _).setCell trivial _)
        have hm : n % 256 < 256 := Nat.mod_lt _ (by omega)
        go_wp2_with fail
        refine (store6 _ _ (.pointer none) _ (by rw [B3.cell]; exact ptrs_get _ _ _ hm) (B3.frozen _) (cv_entry' he2)).mono ?_
        rintro e w3 ⟨rfl, rfl⟩
        go_wp2
        first | go_end0 | refine bodyPost_ret (results_none rfl _ _ _) rfl ?_
        exact ⟨rfl, w1, A, X, HX.out, HF.out, HA.out, by rw [H2.out]; rfl⟩
  · rw [show (L : Int) = 2 * ((n : Int) / 256) from by omega] at hmk
    clear hL
    go_enter Yba.func17, Yba.ntmps17
    go_wp2_with (go_at_call 11; refine (load11 _ _ _ hc hcv).mono ?_; rintro e w' ⟨rfl, rfl⟩)
    have HW : Hid (W0 = (w.alloc (.cells (ptrs L fun _ => none) 42)).alloc (.cells #[.slice (some ⟨w.heap.size, 0, none⟩) L L] 36)) := hW0
    rw [← hW0]
    clear hW0
    go_loopw [42] (fun i wr => ∃ k : Nat, k ≤ l ∧ i = .int .i64 k ∧ Blk wr w.heap.size (ptrs L fun j => if j < k then (tab j).map (⟨·, 0, none⟩) else none) 42 ∧ Fr (fun b => b = w.heap.size) W0 wr) (fun i _ => l - (intOf i).toNat)
    case atStart => exact ⟨0, Nat.zero_le _, rfl, by simpa using A1, Fr.refl _ _⟩
    case round =>
      obtain ⟨k, hk, rfl, hA, hfr⟩ := hrel
      by_cases hlt : k < l
      · have hX := hfr.blk X1 (by omega)
        have hx := hfr.blk x0 (by omega)
        have ha := hfr.blk a0 (by omega)
        have cX : wr.cell? ⟨w.heap.size + 1, 0, none⟩ = some (.slice (some ⟨w.heap.size, 0, none⟩) L L) := by rw [hX.cell]; rfl
        have cx : wr.cell? ⟨bx, 0, none⟩ = some (.slice (some ⟨ba, 0, none⟩) l l) := by rw [hx.cell]; rfl
        have csrc : wr.cell? ⟨ba, k, none⟩ = some (.pointer ((tab k).map (⟨·, 0, none⟩))) := by rw [ha.cell, ptrs_get _ _ _ hlt]
        have cdst : wr.cell? ⟨w.heap.size, k, none⟩ = some (.pointer none) := by rw [hA.cell, ptrs_get _ _ _ (by omega)]; simp
        have hk0 : (0 : Int) ≤ (k : Int) := by omega
        have hkl : (k : Int) < (l : Int) := by omega
        have hkL : (k : Int) < (L : Int) := by omega
        have hcq : (convert 29 39 (.pointer ((tab k).map (⟨·, 0, none⟩)))).run Yba.prog wr.drew = .ok (.pointer ((tab k).map (⟨·, 0, none⟩))) wr.drew := by
          cases ht : tab k with
          | none => exact cv_nil _ _ _ (by simp)
          | some c => exact cv_chunk (hfr.blk (c0 k c ht) (by have := (g.c k c ht).lt; omega)).drew (ptrs_size _ _)
        have hcq' : (convert 39 29 (.pointer ((tab k).map (⟨·, 0, none⟩)))).run Yba.prog wr.drew = .ok (.pointer ((tab k).map (⟨·, 0, none⟩))) wr.drew := by
          cases ht : tab k with
          | none => exact cv_nil _ _ _ (by simp)
          | some c => exact cv_chunk' (hfr.blk (c0 k c ht) (by have := (g.c k c ht).lt; omega)).drew (ptrs_size _ _)
        have kx : ∀ v, (wr.setCell ⟨w.heap.size, k, none⟩ v).cell? ⟨bx, 0, none⟩ = some (.slice (some ⟨ba, 0, none⟩) l l) := fun v => by rw [(hx.set_other (by omega) _ _).cell]; rfl
        go_wp2_with fail
        go_region_held3 (fun w' => w'.cell? ⟨w.heap.size + 1, 0, none⟩ = some (.slice (some ⟨w.heap.size, 0, none⟩) L L) ∧ w'.cell? ⟨bx, 0, none⟩ = some (.slice (some ⟨ba, 0, none⟩) l l)) (go_keep)
          (first | (go_at_call 4; refine (load4 _ ((tab k).map (⟨·, 0, none⟩)) _ ?_ ?_).mono ?_; (exact csrc); (exact hcq); rintro e w' ⟨rfl, rfl⟩) | (go_at_call 5; refine (store5 _ _ (.pointer none) _ ?_ ?_ ?_).mono ?_; (exact cdst); (exact hA.frozen _); (exact hcq'); rintro e w' ⟨rfl, rfl⟩))
        go_wp2
        go_roundw
        case rel =>
          refine ⟨k + 1, by omega, by go_num, ?_, (hfr.setCell rfl _).drew⟩
          have h := hA.set_same k (.pointer ((tab k).map (⟨·, 0, none⟩)))
          rw [ptrs_set] at h
          refine Blk.drew ?_
          rw [ptrs_congr (g := fun j => if j = k then (tab k).map (⟨·, 0, none⟩) else if j < k then (tab j).map (⟨·, 0, none⟩) else none) fun j _ => ?_]
          · exact h
          · by_cases e : j = k
            · subst e; simp
            · rw [if_neg e]
              by_cases e' : j < k
              · rw [if_pos e', if_pos (by omega)]
              · rw [if_neg e', if_neg (by omega)]
        case measure => simp [intOf]; omega
      · have hk' : k = l := by omega
        subst hk'
        have D1 := hfr.blk d0 (by omega)
        have X2 := hfr.blk X1 (by omega)
        have hbdr : bd < wr.heap.size := D1.lt
        go_wp2_with fail
        refine (store7 _ _ (.pointer (some ⟨bx, 0, none⟩)) _ (by rw [D1.cell]; rfl) (D1.frozen _) (cv_chunks' X2 rfl)).mono ?_
        rintro e w1 ⟨rfl, hw1⟩
        obtain ⟨A, hAA⟩ : ∃ A, A = w.heap.size := ⟨_, rfl⟩
        obtain ⟨X, hXX⟩ : ∃ X, X = w.heap.size + 1 := ⟨_, rfl⟩
        have g1 : DictAt w1 bd X A L tab f := by
          rw [hw1, hAA, hXX]
          refine g.moved (by omega) (by omega) (D1.set_same _ _) (X2.set_other (by omega) _ _) ?_ ?_
          · have h := hA.set_other (b' := bd) (by omega) 0 (.pointer (some ⟨w.heap.size + 1, 0, none⟩))
            rw [ptrs_congr (g := fun i => (tab i).map (⟨·, 0, none⟩)) fun j _ => ?_] at h
            · exact h
            · by_cases e' : j < k
              · rw [if_pos e']
              · rw [if_neg e', g.lt j (by omega)]; rfl
          · intro b cs hb
            have hb0 : Blk W0 b cs 49 := by rw [HW.out]; exact (hb.alloc _).alloc _
            have hbl := hb.lt
            have hbn := hb.ne g.d (by decide)
            exact (hfr.blk hb0 (by omega)).set_other hbn _ _
        have hfr1 : Fr (fun b => b = bd ∨ w.heap.size ≤ b) w w1 := by
          rw [hw1]
          have h0 : Fr (fun b => b = bd ∨ w.heap.size ≤ b) w W0 := by rw [HW.out]; exact ((Fr.refl _ w).alloc _).alloc _
          exact (h0.trans (hfr.mono (fun b hb => Or.inr (by omega)))).setCell (Or.inl rfl) _
        have he1 := he.fr hfr1
        have ht : tab (n / 256) = none := g.lt _ hfar
        rw [← hXX, ← hAA]
        have HF : Hid (Fr (fun b => b = bd ∨ w.heap.size ≤ b) w w1) := hfr1
        have HA : Hid (w.heap.size ≤ A ∧ w.heap.size ≤ X) := by constructor <;> omega
        clear hw1 hAA hXX hfr1 hc D1 X2 X1 A1 hmk hA hfr d0 x0 a0 c0 hcx hcv
        clear HW
        have _hl := g1.ll
        have hcx : w1.cell? ⟨X, 0, none⟩ = some (.slice (some ⟨A, 0, none⟩) L L) := by rw [g1.x.cell]; rfl
        have ha : w1.cell? ⟨A, n / 256, none⟩ = some (.pointer none) := by rw [g1.a.cell, ptrs_get _ _ _ hnear, ht]; rfl
        have hz49 := zero49
        have hbx := g1.x.lt
        have hba := g1.a.lt
        have B1 := g1.a.alloc (.cells chunk0 49)
        have B2 := Blk.new w1 chunk0 49
        have HX : Hid (DictAt w1 bd X A L tab f) := g1
        go_wp2_with fail
        refine (load4 _ _ _ ha (cv_nil _ _ _ (by simp))).mono ?_
        rintro e w' ⟨rfl, rfl⟩
        go_wp2_with fail
        refine (store5 _ _ (.pointer none) _ (by rw [B1.cell, ptrs_get _ _ _ hnear, ht]; rfl) (B1.frozen _) (cv_chunk' B2 (ptrs_size _ _))).mono ?_
        rintro e w2 ⟨rfl, hw2⟩
        have H2 : Hid (w2 = (w1.alloc (.cells chunk0 49)).setCell ⟨A, n / 256, none⟩ (.pointer (some ⟨w1.heap.size, 0, none⟩))) := hw2
        clear hw2
        have B3 : Blk w2 w1.heap.size chunk0 49 := by rw [H2.out]; exact B2.set_other (by omega) _ _
        have he2 : EntOk w2 e1 := by rw [H2.out]; exact he1.fr (((Fr.refl (fun _ => True) w1).alloc _).setCell trivial _)
        have hm : n % 256 < 256 := Nat.mod_lt _ (by omega)
        go_wp2_with fail
        refine (store6 _ _ (.pointer none) _ (by rw [B3.cell]; exact ptrs_get _ _ _ hm) (B3.frozen _) (cv_entry' he2)).mono ?_
        rintro e w3 ⟨rfl, rfl⟩
        go_wp2
        first | go_end0 | refine bodyPost_ret (results_none rfl _ _ _) rfl ?_
        exact ⟨rfl, w1, A, X, HX.out, HF.out, HA.out, by rw [H2.out]; rfl⟩
end Go.Proofs.Ybulkefuq
