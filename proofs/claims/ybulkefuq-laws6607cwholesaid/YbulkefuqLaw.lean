import Derived.Test.YbulkefuqEnd
import Derived.Deep.DeepCutAuto
import Derived.Deep.CutBlock
namespace Go.Proofs.Ybulkefuq
open Go.RowKit Go.Maps

theorem info44 : ∃ i, Yba.prog.info? 44 = some i ∧ i.zero = some (.pointer none) ∧ i.size = 1 ∧ i.bytes = 8 := by
  have h : (Yba.prog.info? 44).map (fun i => (i.zero, i.size, i.bytes)) = some (some (.pointer none), 1, 8) := by kernel_rfl
  obtain ⟨i, hi, hz⟩ := Option.map_eq_some_iff.1 h
  simp only [Prod.mk.injEq] at hz
  exact ⟨i, hi, hz⟩
theorem info38 : ∃ i, Yba.prog.info? 38 = some i ∧ i.zero = some (.int .u64 0) ∧ i.size = 1 ∧ i.bytes = 8 := by
  have h : (Yba.prog.info? 38).map (fun i => (i.zero, i.size, i.bytes)) = some (some (.int .u64 0), 1, 8) := by kernel_rfl
  obtain ⟨i, hi, hz⟩ := Option.map_eq_some_iff.1 h
  simp only [Prod.mk.injEq] at hz
  exact ⟨i, hi, hz⟩

set_option maxHeartbeats 20000000 in
set_option maxRecDepth 100000 in
theorem law_a (a0 : Int) (a1 : Bool) (a2 : Int) (a3 : Option Addr) (len3 cap3 : Nat) (p4 : Nat) (a5 : Option Addr) (len5 cap5 : Nat) (p6 : Nat) (a7 : Bool) (w : World)
   (h3 : len3 ≤ 4096) (h5 : len5 ≤ 4096) (h4 : p4 ≤ 255) (h6 : p6 ≤ 255) (k : Nat) (hk6 : (p4 : Int) % 6 = (k : Int)) (hk : k < 6) (m : Nat) (hm6 : (p6 : Int) % 4 = (m : Int)) (hm4 : m < 4)
   (z5 : Nat → Nat) (H5 : len5 = 0 ∨ ∃ b o, a5 = some ⟨b, o, none⟩ ∧ (∀ i, i < len5 → w.cell? ⟨b, o + i, none⟩ = some (.int .u16 (z5 i))) ∧ ∀ i, i < len5 → z5 i < 65536)
   (g : Nat → Nat) (H3 : len3 = 0 ∨ ∃ b o, a3 = some ⟨b, o, none⟩ ∧ (∀ i, i < len3 → w.cell? ⟨b, o + i, none⟩ = some (.int .u64 (g i))) ∧ ∀ i, i < len3 → g i < 18446744073709551616)
   (hgb : ∀ i, i < len3 → g i < 18446744073709551616) (hsz : wrap64 a2 = a2) :
    Calls Yba.prog 3 #[.int .i64 a0, .bool a1, .int .i64 a2, .slice a3 len3 cap3, .int .u8 p4, .slice a5 len5 cap5, .int .u8 p6, .bool a7] w fun e w' => e = .returned (.bool true) ∧ Below w.heap.size w w' := by
  go_enter Yba.func3, Yba.ntmps3
  go_upto_if 65 with fail
  go_cut [17] from 56 to 68 (fun s w' => ∃ b0, s = .int .i64 b0 ∧ w = w')
  case first =>
    as_aux_lemma =>
      go_wp2
      all_goals go_meet
      all_goals exact ⟨_, rfl, rfl⟩
  case rest =>
    obtain ⟨b0, rfl, rfl⟩ := hcut
    go_upto_if 75 with fail
    go_cut [20, 21, 22] from 56 to 133 (fun s20 vE vN wp => ∃ S0 L f m2 pn pe, s20 = .int .i64 ((k - 1 : Nat) : Int) ∧ PreDone w wp w.heap.size k vN vE S0 L f m2 pn pe)
    case first =>
      as_aux_lemma =>
        have hz49 := zero49
        obtain ⟨i44, hi44, hz44, hs44, hb44⟩ := info44
        obtain ⟨i38, hi38, hz38, hs38, hb38⟩ := info38
        cases k with
        | zero =>
          go_wp2
          go_meet
          exact pre_nil w
        | succ l =>
          rw [hk6, show (((l + 1 : Nat) : Int)) = (l : Int) + 1 from by omega]
          clear hk6
          have hmk := make36 .i64 l (by omega)
          have hd75 : decide (0 < l + 1) = true := by simp
          by_cases hl0 : 0 < l
          · have hd81 : decide (0 < l) = true := by simpa using hl0
            rcases H5 with h0 | ⟨b5, o5, rfl, hc5, hz5⟩
            · subst h0
              obtain ⟨W0, hW0⟩ : ∃ W0, W0 = ((w.alloc (.cells #[.pointer none, .nilFunc] 34)).alloc (.cells (ptrs l fun _ => none) 42)).alloc (.cells #[.slice (some ⟨w.heap.size + 1, 0, none⟩) l l] 36) := ⟨_, rfl⟩
              have R := pre_start w l (by omega) W0 hW0
              have hd := R.1.d
              have cd : W0.cell? ⟨w.heap.size, 0, none⟩ = some (.pointer none) := by rw [hd.cell]; rfl
              go_wp2_with fail
              rw [← hW0]
              clear hW0
              go_loop [84, 21, 22] (fun i x y => i = .int .i64 0 ∧ x = .slice none 0 0 ∧ y = .slice none 0 0) (fun _ _ _ => 0)
              case atStart => exact ⟨rfl, rfl, rfl⟩
              case round =>
                obtain ⟨rfl, rfl, rfl⟩ := hrel
                go_wp2_with fail
                refine (store7 _ _ _ _ cd (hd.frozen _) (cv_chunks' R.1.t.x rfl)).mono ?_
                rintro e w7 ⟨rfl, rfl⟩
                go_wp2
                go_meet
                exact ⟨_, _, _, _, _, _, rfl, pre_link R (by omega)⟩
            · obtain ⟨W0, hW0⟩ : ∃ W0, W0 = ((w.alloc (.cells #[.pointer none, .nilFunc] 34)).alloc (.cells (ptrs l fun _ => none) 42)).alloc (.cells #[.slice (some ⟨w.heap.size + 1, 0, none⟩) l l] 36) := ⟨_, rfl⟩
              have P0 := pre_start w l (by omega) W0 hW0
              go_wp2_with fail
              rw [← hW0]
              clear hW0
              go_loopw [84, 21, 22] (fun i vE vN wr => ∃ j tab f pn pe, j ≤ len5 ∧ i = .int .i64 (j : Nat) ∧ PreRound w wr w.heap.size (w.heap.size + 1 + 1) (w.heap.size + 1) l j vN vE tab f pn pe) (fun i _ _ _ => len5 - (intOf i).toNat)
              case atStart => exact ⟨0, _, _, _, _, Nat.zero_le _, rfl, P0⟩
              case round =>
                obtain ⟨j, tab, f, pn, pe, hj, rfl, R⟩ := hrel
                by_cases hlt : j < len5
                · have hpw := hc5 j hlt
                  have hzj := hz5 j hlt
                  have hb5 : b5 < w.heap.size := World.block_lt_of_cell? w _ hpw
                  have hp : wr.cell? ⟨b5, o5 + j, none⟩ = some (.int .u16 (z5 j)) := by rw [World.cell?_of_block (w := w) (R.1.fr.keep b5 hb5 (by omega))]; exact hpw
                  obtain ⟨n, hn⟩ : ∃ n, n = z5 j % (l * 256) := ⟨_, rfl⟩
                  have hnI : (z5 j : Int) % ((l : Int) * 256) = (n : Int) := by rw [hn]; simp
                  have hnlt : n < l * 256 := by rw [hn]; exact Nat.mod_lt _ (by omega)
                  clear hn
                  have hnl : n / 256 < l := by omega
                  have cX : wr.cell? ⟨w.heap.size + 1 + 1, 0, none⟩ = some (.slice (some ⟨w.heap.size + 1, 0, none⟩) l l) := by rw [R.1.t.x.cell]; rfl
                  cases ht : tab (n / 256) with
                  | some c =>
                    have ca : wr.cell? ⟨w.heap.size + 1, n / 256, none⟩ = some (.pointer (some ⟨c, 0, none⟩)) := by rw [R.1.t.a.cell, ptrs_get _ _ _ hnl, ht]; rfl
                    have RQ := R.1
                    have TQ := RQ.t
                    have HT : Hid (tab (n / 256) = some c) := ht
                    clear ht
                    go_upto_region 20 with (go_at_call 4; refine (load4 _ _ _ ca (cv_chunk (TQ.c _ _ HT.out) (ptrs_size _ _))).mono ?_; rintro e w' ⟨rfl, rfl⟩)
                    have hm : n % 256 < 256 := Nat.mod_lt _ (by omega)
                    go_upto_region 24 with fail
                    obtain ⟨Wp, hWp⟩ : ∃ Wp, Wp = (wr.alloc (.cells #[.int .u8 ((j : Int) % 256)] 5)).alloc (.cells #[.slice none 0 0, .slice (some ⟨wr.heap.size, 0, none⟩) 1 1, .bool true] 54) := ⟨_, rfl⟩
                    rw [← hWp]
                    have R2 : PreCore w Wp w.heap.size (w.heap.size + 1 + 1) (w.heap.size + 1) l j j u22 u21 tab f pn pe := by rw [hWp]; exact (RQ.alloc _).alloc _
                    have E2 : EntOk Wp ⟨wr.heap.size + 1, 0, none⟩ := by
                      rw [hWp]
                      have hb := Blk.new (wr.alloc (.cells #[.int .u8 ((j : Int) % 256)] 5)) #[.slice none 0 0, .slice (some ⟨wr.heap.size, 0, none⟩) 1 1, .bool true] 54
                      rw [show (wr.alloc (.cells #[.int .u8 ((j : Int) % 256)] 5)).heap.size = wr.heap.size + 1 from by simp] at hb
                      exact entOk_new hb rfl
                    clear hWp
                    obtain ⟨E, hE⟩ : ∃ E : Addr, E = ⟨wr.heap.size + 1, 0, none⟩ := ⟨_, rfl⟩
                    rw [← hE] at E2 ⊢
                    clear hE
                    have Bc := R2.t.c _ _ HT.out
                    go_wp2_with fail
                    refine (store6 _ _ _ _ (by rw [Bc.cell]; exact ptrs_get _ _ _ hm) (Bc.frozen _) (cv_entry' E2)).mono ?_
                    rintro e w6 ⟨rfl, hw6⟩
                    have R6 : PreCore w w6 w.heap.size (w.heap.size + 1 + 1) (w.heap.size + 1) l j j u22 u21 tab (fun m => if m = n then some E else f m) pn pe := by rw [hw6]; exact R2.put HT.out E2
                    clear hw6 R2 Bc E2
                    go_upto_region 26 with (at_builtin; refine wpList_append_lies _ rfl _ _ _ rfl w.heap.size 44 i44 (.pointer none) 1 8 Yba.underlying35 hi44 hz44 hs44 hb44 rfl (by omega) u21 j (rowE pe j) rfl (R6.alloc _).rE ⟨w6.heap.size, 0, none⟩ 1 1 [.pointer (some E)] rfl rfl (World.news_of_block (Blk.new w6 #[.pointer (some E)] 44)) (by simp [Value.oneCell']) (by omega) (by unfold maxLen; omega) (by omega) (by have := R6.fr.size; simp; omega) _ rfl ?_; intro gE cE w7 ho7 hg7 hat7 hlt7)
                    have R7 := (R6.alloc (.cells #[.pointer (some E)] 44)).appE hg7 ho7
                    clear ho7 hg7 hat7 hlt7 R6
                    go_wp2_with (at_builtin; refine wpList_append_lies _ rfl _ _ _ rfl w.heap.size 38 i38 (.int .u64 0) 1 8 Yba.underlying22 hi38 hz38 hs38 hb38 rfl (by omega) u22 j (rowN pn j) rfl (R7.alloc _).rN ⟨w7.heap.size, 0, none⟩ 1 1 [.int .u64 n] rfl rfl (World.news_of_block (Blk.new w7 #[.int .u64 n] 38)) (by simp [Value.oneCell']) (by omega) (by unfold maxLen; omega) (by omega) (by have := R7.fr.size; simp; omega) _ rfl ?_; intro gN cN w8 ho8 hg8 hat8 hlt8)
                    have R8 := (R7.alloc (.cells #[.int .u64 n] 38)).appN hg8 ho8
                    clear ho8 hg8 hat8 hlt8 R7
                    go_roundw
                    case rel =>
                      refine ⟨j + 1, tab, _, updAt pn j n, updAt pe j (some E), by omega, by go_num, R8, fun i hi => ?_, fun p => ?_⟩
                      · unfold updAt
                        by_cases e : i = j
                        · rw [if_pos e]; omega
                        · rw [if_neg e]; exact R.2.1 i (by omega)
                      · rw [last_put]
                        simp only [R.2.2 p]
                    case measure => simp [intOf]; omega
                  | none =>
                    have ca : wr.cell? ⟨w.heap.size + 1, n / 256, none⟩ = some (.pointer none) := by rw [R.1.t.a.cell, ptrs_get _ _ _ hnl, ht]; rfl
                    have hAl := R.1.t.a.lt
                    have hXl := R.1.t.x.lt
                    have B1 := R.1.t.a.alloc (.cells chunk0 49)
                    have B2 := Blk.new wr chunk0 49
                    have RQ0 := R.1.chunk hnl ht
                    have cA : (wr.alloc (.cells chunk0 49)).cell? ⟨w.heap.size + 1, n / 256, none⟩ = some (.pointer none) := by rw [B1.cell, ptrs_get _ _ _ hnl, ht]; rfl
                    clear ht
                    go_upto_region 20 with (go_at_call 4; refine (load4 _ _ _ ca (cv_nil _ _ _ (by simp))).mono ?_; rintro e w' ⟨rfl, rfl⟩)
                    go_wp2_with fail
                    refine (store5 _ _ _ _ cA (B1.frozen _) (cv_chunk' B2 (ptrs_size _ _))).mono ?_
                    rintro e wq ⟨rfl, hwq⟩
                    obtain ⟨c, hc⟩ : ∃ c, c = wr.heap.size := ⟨_, rfl⟩
                    obtain ⟨tab', htab'⟩ : ∃ tab' : Nat → Option Nat, tab' = fun j => if j = n / 256 then some wr.heap.size else tab j := ⟨_, rfl⟩
                    have RQ : PreCore w wq w.heap.size (w.heap.size + 1 + 1) (w.heap.size + 1) l j j u22 u21 tab' f pn pe := by rw [hwq, htab']; exact RQ0
                    have HT : Hid (tab' (n / 256) = some c) := by rw [htab', hc]; simp; trivial
                    rw [← hc]
                    clear hwq htab' hc RQ0 B1 B2 cA hAl hXl ca
                    have hm : n % 256 < 256 := Nat.mod_lt _ (by omega)
                    go_upto_region 24 with fail
                    obtain ⟨Wp, hWp⟩ : ∃ Wp, Wp = (wq.alloc (.cells #[.int .u8 ((j : Int) % 256)] 5)).alloc (.cells #[.slice none 0 0, .slice (some ⟨wq.heap.size, 0, none⟩) 1 1, .bool true] 54) := ⟨_, rfl⟩
                    rw [← hWp]
                    have R2 : PreCore w Wp w.heap.size (w.heap.size + 1 + 1) (w.heap.size + 1) l j j u22 u21 tab' f pn pe := by rw [hWp]; exact (RQ.alloc _).alloc _
                    have E2 : EntOk Wp ⟨wq.heap.size + 1, 0, none⟩ := by
                      rw [hWp]
                      have hb := Blk.new (wq.alloc (.cells #[.int .u8 ((j : Int) % 256)] 5)) #[.slice none 0 0, .slice (some ⟨wq.heap.size, 0, none⟩) 1 1, .bool true] 54
                      rw [show (wq.alloc (.cells #[.int .u8 ((j : Int) % 256)] 5)).heap.size = wq.heap.size + 1 from by simp] at hb
                      exact entOk_new hb rfl
                    clear hWp
                    obtain ⟨E, hE⟩ : ∃ E : Addr, E = ⟨wq.heap.size + 1, 0, none⟩ := ⟨_, rfl⟩
                    rw [← hE] at E2 ⊢
                    clear hE
                    have Bc := R2.t.c _ _ HT.out
                    go_wp2_with fail
                    refine (store6 _ _ _ _ (by rw [Bc.cell]; exact ptrs_get _ _ _ hm) (Bc.frozen _) (cv_entry' E2)).mono ?_
                    rintro e w6 ⟨rfl, hw6⟩
                    have R6 : PreCore w w6 w.heap.size (w.heap.size + 1 + 1) (w.heap.size + 1) l j j u22 u21 tab' (fun m => if m = n then some E else f m) pn pe := by rw [hw6]; exact R2.put HT.out E2
                    clear hw6 R2 Bc E2
                    go_upto_region 26 with (at_builtin; refine wpList_append_lies _ rfl _ _ _ rfl w.heap.size 44 i44 (.pointer none) 1 8 Yba.underlying35 hi44 hz44 hs44 hb44 rfl (by omega) u21 j (rowE pe j) rfl (R6.alloc _).rE ⟨w6.heap.size, 0, none⟩ 1 1 [.pointer (some E)] rfl rfl (World.news_of_block (Blk.new w6 #[.pointer (some E)] 44)) (by simp [Value.oneCell']) (by omega) (by unfold maxLen; omega) (by omega) (by have := R6.fr.size; simp; omega) _ rfl ?_; intro gE cE w7 ho7 hg7 hat7 hlt7)
                    have R7 := (R6.alloc (.cells #[.pointer (some E)] 44)).appE hg7 ho7
                    clear ho7 hg7 hat7 hlt7 R6
                    go_wp2_with (at_builtin; refine wpList_append_lies _ rfl _ _ _ rfl w.heap.size 38 i38 (.int .u64 0) 1 8 Yba.underlying22 hi38 hz38 hs38 hb38 rfl (by omega) u22 j (rowN pn j) rfl (R7.alloc _).rN ⟨w7.heap.size, 0, none⟩ 1 1 [.int .u64 n] rfl rfl (World.news_of_block (Blk.new w7 #[.int .u64 n] 38)) (by simp [Value.oneCell']) (by omega) (by unfold maxLen; omega) (by omega) (by have := R7.fr.size; simp; omega) _ rfl ?_; intro gN cN w8 ho8 hg8 hat8 hlt8)
                    have R8 := (R7.alloc (.cells #[.int .u64 n] 38)).appN hg8 ho8
                    clear ho8 hg8 hat8 hlt8 R7
                    go_roundw
                    case rel =>
                      refine ⟨j + 1, tab', _, updAt pn j n, updAt pe j (some E), by omega, by go_num, R8, fun i hi => ?_, fun p => ?_⟩
                      · unfold updAt
                        by_cases e : i = j
                        · rw [if_pos e]; omega
                        · rw [if_neg e]; exact R.2.1 i (by omega)
                      · rw [last_put]
                        simp only [R.2.2 p]
                    case measure => simp [intOf]; omega
                · have hj' : j = len5 := by omega
                  subst hj'
                  have hd := R.1.d
                  have cd : wr.cell? ⟨w.heap.size, 0, none⟩ = some (.pointer none) := by rw [hd.cell]; rfl
                  go_wp2_with fail
                  refine (store7 _ _ _ _ cd (hd.frozen _) (cv_chunks' R.1.t.x rfl)).mono ?_
                  rintro e w7 ⟨rfl, rfl⟩
                  go_wp2
                  go_meet
                  exact ⟨_, _, _, _, _, _, rfl, pre_link R (by omega)⟩
          · have hd81 : decide (0 < l) = false := by simpa using hl0
            obtain ⟨W0, hW0⟩ : ∃ W0, W0 = ((w.alloc (.cells #[.pointer none, .nilFunc] 34)).alloc (.cells (ptrs l fun _ => none) 42)).alloc (.cells #[.slice (some ⟨w.heap.size + 1, 0, none⟩) l l] 36) := ⟨_, rfl⟩
            have R := pre_start w l (by omega) W0 hW0
            have hd := R.1.d
            have cd : W0.cell? ⟨w.heap.size, 0, none⟩ = some (.pointer none) := by rw [hd.cell]; rfl
            go_wp2_with fail
            rw [← hW0]
            clear hW0
            refine (store7 _ _ _ _ cd (hd.frozen _) (cv_chunks' R.1.t.x rfl)).mono ?_
            rintro e w7 ⟨rfl, rfl⟩
            go_wp2
            go_meet
            exact ⟨_, _, _, _, _, _, rfl, pre_link R (by omega)⟩
    case rest =>
      obtain ⟨S0, L, f, m2, pn, pe, rfl, PD⟩ := hcut
      rename World => wp
      have hmm := @run_makeMap Yba.prog
      go_upto_if 138 with fail
      go_cut [29] from 134 to 143 (fun s29 w' => s29 = .pointer (some ⟨wp.heap.size + 1, 0, none⟩) ∧ Blk w' (wp.heap.size + 1) (ecCells 0 wp.heap.size b0) 66 ∧ (∃ D, w'.ownsMap Yba.prog 38 ptrElem wp.heap.size 1 D ∧ MapIs D (othM (if a7 then some w.heap.size else none) (fun _ => 0) 0) ∧ Maps.size D = if a7 then 1 else 0) ∧ Fr (fun b => wp.heap.size ≤ b) wp w')
      case first =>
        as_aux_lemma =>
          obtain ⟨Wm, hWm⟩ : ∃ Wm, Wm = (wp.alloc (.map #[] 0)).alloc (.cells #[.int .i32 0, .int .u32 0, .map (some wp.heap.size), .int .i64 b0] 66) := ⟨_, rfl⟩
          rw [← hWm]
          have own0 : Wm.ownsMap Yba.prog 38 ptrElem wp.heap.size 0 (.map []) := by rw [hWm]; exact (World.ownsMap_made wp _ _ _).alloc _
          have EC0 : Blk Wm (wp.heap.size + 1) (ecCells 0 wp.heap.size b0) 66 := by
            rw [hWm]
            have := Blk.new (wp.alloc (.map #[] 0)) (ecCells 0 wp.heap.size b0) 66
            rw [show (wp.alloc (.map #[] 0)).heap.size = wp.heap.size + 1 from by simp] at this
            exact this
          have F0 : Fr (fun b => wp.heap.size ≤ b) wp Wm := by rw [hWm]; exact ((Fr.refl _ wp).alloc _).alloc _
          clear hWm
          cases a7 with
          | false =>
            go_wp2
            go_meet
            exact ⟨rfl, EC0, ⟨_, own0.mono (by omega), ⟨tidy_empty, fun k zd => by unfold othM; by_cases e : k = 0 <;> simp [e] <;> rfl⟩, rfl⟩, F0⟩
          | true =>
            have c2 : Wm.cell? ⟨wp.heap.size + 1, 2, none⟩ = some (.map (some wp.heap.size)) := by rw [EC0.cell]; rfl
            go_wp2_with (at_mapUpdate; refine wpList_mapUpdate_own _ rfl _ _ _ 58 rfl 38 24 law38 Yba.underlying58 ptrElem wp.heap.size 0 _ rfl own0 (by unfold maxLen; omega) _ _ (.int .u64 0) rfl rfl (key_mk 0 (by omega)) (.lit (.int .u64 w.heap.size)) [] rfl ?_; intro w1 hown1 hgrow1)
            go_meet
            have hne := own_map_ne own0 EC0
            have hsm : Wm.shape? wp.heap.size = none := by
              obtain ⟨es, clock, hm, _⟩ := own0
              simp [World.shape?, hm]
            have F1 : Fr (fun c => some wp.heap.size = some c) Wm w1 := Fr.of_grown hgrow1 (fun r x e _ hx => by cases e; rw [hsm] at hx; cases hx)
            refine ⟨rfl, F1.blk EC0 (fun e => hne (Option.some.inj e)), ⟨_, hown1, ?_, ?_⟩, F0.trans (F1.mono fun b hb => by cases hb; exact Nat.le_refl _)⟩
            · have := mapIs_empty.put 0 w.heap.size
              have e : (fun j => if j = 0 then some w.heap.size else none) = othM (some w.heap.size) (fun _ => 0) 0 := by
                funext j
                unfold othM
                by_cases h : j = 0
                · simp [h]
                · rw [if_neg h, if_neg h, if_neg (by omega)]
              rw [e] at this
              exact this
            · exact mapIs_empty.size_put 0 rfl _
      case rest =>
        obtain ⟨rfl, EC, ⟨D, hD1, hD2, hD3⟩, FD⟩ := hcut
        rename World => wm
        have hmk67 := make67 m (by omega)
        have hmk35 := make35 m (by omega)
        go_upto_block 2 with fail
        go_cut [30] from 144 to 191 (fun s30 w' => s30 = .int .i64 m ∧ ∃ ob oe, OthAt wp w' (wm.heap.size + 2) wp.heap.size (wp.heap.size + 1) wm.heap.size (wm.heap.size + 1) m b0 (if a7 then some w.heap.size else none) m ob oe)
        case first =>
          as_aux_lemma =>
            rw [hm6]
            clear hm6 hmk67 hmk35 hmm hk6
            have hz49 := zero49
            have hmk1 : ∀ w : World, (Instr.makeSlice 36 (.int .i64 1) (.int .i64 1)).run Yba.prog w = .ok (.slice (some ⟨w.heap.size, 0, none⟩) 1 1) (w.alloc (.cells (ptrs 1 fun _ => none) 42)) := fun w => by
              have := make36 .i64 1 (by omega) w
              exact this
            obtain ⟨W0, hW0⟩ : ∃ W0, W0 = (wm.alloc (.cells (ptrs m fun _ => none) 24)).alloc (.cells (ptrs m fun _ => none) 44) := ⟨_, rfl⟩
            have hwps := FD.size
            have hECl := EC.lt
            have hbml := hD1.lt
            have hW0s : wm.heap.size + 2 ≤ W0.heap.size := by rw [hW0]; simp
            have O0 : OthAt wp W0 (wm.heap.size + 2) wp.heap.size (wp.heap.size + 1) wm.heap.size (wm.heap.size + 1) m b0 (if a7 then some w.heap.size else none) 0 (fun _ => 0) (fun _ => ⟨0, 0, none⟩) := by
              have hb : Blk W0 (wm.heap.size + 1) (ptrs m fun _ => none) 44 := by
                rw [hW0]
                have := Blk.new (wm.alloc (.cells (ptrs m fun _ => none) 24)) (ptrs m fun _ => none) 44
                rw [show (wm.alloc (.cells (ptrs m fun _ => none) 24)).heap.size = wm.heap.size + 1 from by simp] at this
                exact this
              refine ⟨by rw [hW0]; exact (EC.alloc _).alloc _, ⟨D, by rw [hW0]; exact (hD1.alloc _).alloc _, hD2, ?_⟩, ?_, ?_, fun i hi => by omega, ⟨by omega, by omega, by omega, by omega, hW0s⟩, ?_⟩
              · rw [hD3]
                cases a7 <;> simp
              · rw [hW0]
                simpa using (Blk.new wm (ptrs m fun _ => none) 24).alloc _
              · simpa using hb
              · rw [hW0]
                exact (FD.alloc _).alloc _
            go_wp2_with fail
            rw [← hW0]
            clear hW0 hD1 hD2 hD3 EC
            go_loopw [33] (fun i wr => ∃ (j : Nat) (ob : Nat → Nat) (oe : Nat → Addr), j ≤ m ∧ i = .int .i64 j ∧ OthAt wp wr (wm.heap.size + 2) wp.heap.size (wp.heap.size + 1) wm.heap.size (wm.heap.size + 1) m b0 (if a7 then some w.heap.size else none) j ob oe) (fun i _ => m - (intOf i).toNat)
            case atStart => exact ⟨0, _, _, Nat.zero_le _, rfl, O0⟩
            case round =>
              obtain ⟨j, ob, oe, hj, rfl, OA⟩ := hrel
              by_cases hlt : j < m
              · go_upto_region 42 with fail
                obtain ⟨W6, hW6⟩ : ∃ W6, W6 = six wr := ⟨_, rfl⟩
                obtain ⟨b1, b2, b3, b4, b5, b6, _⟩ := six_facts wr
                have hlk := six_linked wr
                rw [← hW6] at b1 b2 b3 b4 b5 b6
                show Code.wp _ _ _ _ (six wr)
                rw [← hW6]
                have H6 : Hid (W6 = six wr) := hW6
                clear hW6
                obtain ⟨h0, hh0⟩ : ∃ h0, h0 = wr.heap.size := ⟨_, rfl⟩
                rw [← hh0] at b1 b2 b3 b4 b5 b6 hlk ⊢
                have HH : Hid (h0 = wr.heap.size) := hh0
                clear hh0
                go_wp2_with fail
                refine (store6 _ _ (.pointer none) _ (by rw [b4.cell]; exact ptrs_get _ _ _ (by omega)) (b4.frozen _) (cv_entry' b5)).mono ?_
                rintro e w7 ⟨rfl, hw7⟩
                have H7 : Hid (w7 = W6.setCell ⟨h0 + 1 + 1 + 1, 0, none⟩ (.pointer (some ⟨h0 + 1 + 1 + 1 + 1 + 1, 0, none⟩))) := hw7
                have d1 : Blk w7 h0 #[.pointer none, .nilFunc] 34 := by rw [hw7]; exact b1.set_other (by omega) _ _
                have d2 : Blk w7 (h0 + 1) (ptrs 1 fun _ => none) 42 := by rw [hw7]; exact b2.set_other (by omega) _ _
                have d3 : Blk w7 (h0 + 1 + 1) #[.slice (some ⟨h0 + 1, 0, none⟩) 1 1] 36 := by rw [hw7]; exact b3.set_other (by omega) _ _
                have d4 : Blk w7 (h0 + 1 + 1 + 1) (chunk0.setIfInBounds 0 (.pointer (some ⟨h0 + 1 + 1 + 1 + 1 + 1, 0, none⟩))) 49 := by rw [hw7]; exact b4.set_same _ _
                clear hw7
                have cx : w7.cell? ⟨h0 + 1 + 1, 0, none⟩ = some (.slice (some ⟨h0 + 1, 0, none⟩) 1 1) := by rw [d3.cell]; rfl
                go_wp2_with fail
                refine (store5 _ _ (.pointer none) _ (by rw [d2.cell]; exact ptrs_get _ _ _ (by omega)) (d2.frozen _) (cv_chunk' d4 (by simp [chunk0, ptrs_size]))).mono ?_
                rintro e w8 ⟨rfl, hw8⟩
                have H8 : Hid (w8 = w7.setCell ⟨h0 + 1, 0, none⟩ (.pointer (some ⟨h0 + 1 + 1 + 1, 0, none⟩))) := hw8
                have e1 : Blk w8 h0 #[.pointer none, .nilFunc] 34 := by rw [hw8]; exact d1.set_other (by omega) _ _
                have e3 : Blk w8 (h0 + 1 + 1) #[.slice (some ⟨h0 + 1, 0, none⟩) 1 1] 36 := by rw [hw8]; exact d3.set_other (by omega) _ _
                clear hw8
                go_wp2_with fail
                refine (store7 _ _ (.pointer none) _ (by rw [e1.cell]; rfl) (e1.frozen _) (cv_chunks' e3 rfl)).mono ?_
                rintro e w9 ⟨rfl, hw9⟩
                obtain ⟨dO, frO⟩ := hlk w9 (by rw [hw9, H8.out, H7.out, H6.out]) (wm.heap.size + 2) (by have := OA.le.2.2.2.2; have := HH.out; omega)
                clear hw9
                have O9 := OA.fr' (frO.mono fun b hb => by have := HH.out; omega)
                obtain ⟨D9, m9, M9, z9⟩ := O9.map
                have no := own_map_ne m9 O9.o
                have nE := own_map_ne m9 O9.oE
                have ho9 := O9.o
                have hE9 := O9.oE
                have cO : w9.cell? ⟨wm.heap.size, j, none⟩ = some (.pointer none) := by rw [ho9.cell, ptrs_get _ _ _ hlt]; simp
                have zO : w9.frozen? ⟨wm.heap.size, j, none⟩ = false := ho9.frozen _
                have hE10 := hE9.set_other (b' := wm.heap.size) (by omega) j (.pointer (some ⟨h0, 0, none⟩))
                have cE : (w9.setCell ⟨wm.heap.size, j, none⟩ (.pointer (some ⟨h0, 0, none⟩))).cell? ⟨wm.heap.size + 1, j, none⟩ = some (.pointer none) := by rw [hE10.cell, ptrs_get _ _ _ hlt]; simp
                have zE : (w9.setCell ⟨wm.heap.size, j, none⟩ (.pointer (some ⟨h0, 0, none⟩))).frozen? ⟨wm.heap.size + 1, j, none⟩ = false := hE10.frozen _
                have ec11 := (O9.ec.set_other (b' := wm.heap.size) (by omega) j (.pointer (some ⟨h0, 0, none⟩))).set_other (b' := wm.heap.size + 1) (by omega) j (.pointer (some ⟨h0 + 1 + 1 + 1 + 1 + 1, 0, none⟩))
                have cec : ((w9.setCell ⟨wm.heap.size, j, none⟩ (.pointer (some ⟨h0, 0, none⟩))).setCell ⟨wm.heap.size + 1, j, none⟩ (.pointer (some ⟨h0 + 1 + 1 + 1 + 1 + 1, 0, none⟩))).cell? ⟨wp.heap.size + 1, 2, none⟩ = some (.map (some wp.heap.size)) := by rw [ec11.cell]; rfl
                have m11 : ((w9.setCell ⟨wm.heap.size, j, none⟩ (.pointer (some ⟨h0, 0, none⟩))).setCell ⟨wm.heap.size + 1, j, none⟩ (.pointer (some ⟨h0 + 1 + 1 + 1 + 1 + 1, 0, none⟩))).ownsMap Yba.prog 38 ptrElem wp.heap.size (j + 1) D9 :=
                  (m9.kept (grownBy_setCell _ _ _) (fun e => no (Option.some.inj e))).kept (grownBy_setCell _ _ _) (fun e => nE (Option.some.inj e))
                have hkey : keyOf Yba.prog 38 (.int .u64 ((j : Int) + 1)) = some (.int .u64 ((j + 1 : Nat) : Int)) := key_mk (j + 1) (by omega)
                have hj0 : (0 : Int) ≤ (j : Int) := by omega
                have hjm : (j : Int) < (m : Int) := by omega
                have HO := (show Hid _ from O9)
                have Hd := (show Hid _ from dO)
                clear dO O9 hE10 ec11 OA O0
                go_wp2_with (at_mapUpdate; refine wpList_mapUpdate_own _ rfl _ _ _ 58 rfl 38 24 law38 Yba.underlying58 ptrElem wp.heap.size (j + 1) _ rfl m11 (by unfold maxLen; omega) _ _ _ rfl rfl hkey (.lit (.int .u64 h0)) [] rfl ?_; intro w12 hown12 hgrow12)
                go_roundw
                case rel =>
                  refine ⟨j + 1, updAt ob j h0, updAt oe j ⟨h0 + 1 + 1 + 1 + 1 + 1, 0, none⟩, by omega, by go_num, ?_⟩
                  refine OthAt.snoc HO.out hlt (Nat.le_refl _) hwps (by omega) Hd.out rfl hown12 ?_ ?_ hgrow12
                  · rw [← othM_snoc]; exact M9.put (j + 1) h0
                  · rw [M9.size_put (j + 1) (by unfold othM; rw [if_neg (by omega), if_neg (by omega)]) _, z9]; omega
                case measure => simp [intOf]; omega
              · have hj' : j = m := by omega
                subst hj'
                go_wp2
                go_meet
                exact ⟨rfl, ob, oe, OA⟩
        case rest =>
          obtain ⟨rfl, ob, oe, OA⟩ := hcut
          rename World => wo
          have hmk68 := make68 len3 (by omega)
          go_upto_block 4 with fail
          go_cut [38] from 192 to 216 (fun s38 w' => s38 = .slice (some ⟨wo.heap.size, 0, none⟩) len3 len3 ∧ ∃ tb, ReadAt wo w' wo.heap.size len3 g len3 tb)
          case first =>
            as_aux_lemma =>
              obtain ⟨W0, hW0⟩ : ∃ W0, W0 = wo.alloc (.cells (num0 len3) 70) := ⟨_, rfl⟩
              have R0 : ReadAt wo W0 wo.heap.size len3 g 0 (fun _ => 0) := by
                rw [hW0]
                exact ⟨⟨_, Blk.new wo _ _, num0_size _, fun i hi => by omega⟩, fun i hi => by omega, Nat.le_refl _, (Fr.refl _ wo).alloc _⟩
              rcases H3 with h0 | ⟨b3, o3, rfl, hc3, hz3⟩
              · subst h0
                go_wp2_with fail
                go_loop [197] (fun i => i = .int .i64 0) (fun _ => 0)
                case atStart => rfl
                case round =>
                  subst hrel
                  go_wp2
                  go_meet
                  exact ⟨rfl, _, hW0 ▸ R0⟩
              · go_wp2_with fail
                rw [← hW0]
                clear hW0 hmk68
                go_loopw [197] (fun i wr => ∃ (j : Nat) (tb : Nat → Nat), j ≤ len3 ∧ i = .int .i64 j ∧ ReadAt wo wr wo.heap.size len3 g j tb) (fun i _ => len3 - (intOf i).toNat)
                case atStart => exact ⟨0, _, Nat.zero_le _, rfl, R0⟩
                case round =>
                  obtain ⟨j, tb, hj, rfl, RA⟩ := hrel
                  by_cases hlt : j < len3
                  · have hpw := hc3 j hlt
                    have hb3 : b3 < w.heap.size := World.block_lt_of_cell? w _ hpw
                    have hp : wr.cell? ⟨b3, o3 + j, none⟩ = some (.int .u64 (g j)) := by
                      rw [World.cell?_of_block (w := wo) (RA.fr.keep b3 (by have := PD.fr.size; have := OA.fr.size; omega) (by have := PD.fr.size; have := OA.fr.size; show ¬ wo.heap.size ≤ b3; omega)), World.cell?_of_block (w := wp) (OA.fr.keep b3 (by have := PD.fr.size; omega) (by have := PD.fr.size; show ¬ wp.heap.size ≤ b3; omega)), World.cell?_of_block (w := w) (PD.fr.keep b3 hb3 (by omega))]
                      exact hpw
                    obtain ⟨cs, rB, rS, _⟩ := RA.blk
                    have hrl := rB.lt
                    have c0 : ∃ v, wr.cell? ⟨wo.heap.size, j * 4, none⟩ = some v := ⟨_, by rw [rB.cell]; exact Array.getElem?_eq_getElem (by omega)⟩
                    obtain ⟨v0, c0⟩ := c0
                    have z0 : wr.frozen? ⟨wo.heap.size, j * 4, none⟩ = false := rB.frozen _
                    have hj0 : (0 : Int) ≤ (j : Int) := by omega
                    have hjm : (j : Int) < (len3 : Int) := by omega
                    go_upto_region 53 with fail
                    obtain ⟨W1, hW1⟩ : ∃ W1, W1 = wr.setCell ⟨wo.heap.size, j * 4, none⟩ (.int .u64 (g j)) := ⟨_, rfl⟩
                    rw [← hW1]
                    have rB1 : Blk W1 wo.heap.size (cs.setIfInBounds (j * 4) (.int .u64 (g j))) 70 := by rw [hW1]; exact rB.set_same _ _
                    have hW1s : wr.heap.size = W1.heap.size := by rw [hW1]; simp [World.setCell]
                    have HW1 := (show Hid _ from hW1)
                    have HS1 := (show Hid _ from hW1s)
                    clear hW1 hW1s
                    have rB2 := rB1.alloc (.cells #[.int .u8 ((j : Int) % 256), .int .u8 1] 5)
                    have rl1 := rB1.lt
                    obtain ⟨v2, c2⟩ : ∃ v, (W1.alloc (.cells #[.int .u8 ((j : Int) % 256), .int .u8 1] 5)).cell? ⟨wo.heap.size, j * 4 + 1 + 1, none⟩ = some v := ⟨_, by rw [rB2.cell]; exact Array.getElem?_eq_getElem (by simp; omega)⟩
                    have z2 : (W1.alloc (.cells #[.int .u8 ((j : Int) % 256), .int .u8 1] 5)).frozen? ⟨wo.heap.size, j * 4 + 1 + 1, none⟩ = false := rB2.frozen _
                    have HSN := (show Hid _ from RA)
                    clear RA hp c0 rB
                    go_wp2
                    go_roundw
                    case rel =>
                      refine ⟨j + 1, _, by omega, by go_num, HSN.out.snoc hlt ?_⟩
                      rw [HS1.out, ← HW1.out, World.setCell_alloc_past _ _ _ _ rl1]
                    case measure => simp [intOf]; omega
                  · have hj' : j = len3 := by omega
                    subst hj'
                    go_wp2
                    go_meet
                    exact ⟨rfl, tb, RA⟩
          case rest =>
            obtain ⟨rfl, tb, RA⟩ := hcut
            rename World => wt
            have KP : KeepPre w wp wo wt (wm.heap.size + 2) k m len3 wm.heap.size (wm.heap.size + 1) b0 a7 S0 L f ob oe u22 u21 m2 pn pe g tb := ⟨PD, OA, by have := EC.lt; constructor <;> omega, RA⟩
            have HKP := (show Hid _ from KP)
            have HEC := (show Hid _ from FD)
            clear KP PD OA RA FD EC hD1 hD2 hD3 hmk67 hmk35 hmm hmk68
            obtain ⟨cl, hcl⟩ : ∃ cl, decide (4194304 < wrap64 (b0 + a2)) = cl := ⟨_, rfl⟩
            go_upto_if 223 with fail
            go_cut [41] from 217 to 226 (fun s41 w' => s41 = .int .i64 (if cl then a2 else wrap64 (b0 + a2)) ∧ wt = w')
            case first =>
              cases cl with
              | true =>
                go_wp2
                go_meet
                exact ⟨rfl, rfl⟩
              | false =>
                go_wp2
                go_meet
                exact ⟨rfl, rfl⟩
            case rest =>
              obtain ⟨rfl, rfl⟩ := hcut
              have HCL := (show Hid _ from hcl)
              clear hcl
              go_upto_region 60 with (go_at_call 8; refine (ec_keep_law HKP.out h3 hgb a2 hsz cl HCL.out).mono ?_; rintro e wk ⟨rfl, hk1⟩)
              obtain ⟨D, hM, hMs, KD⟩ := hk1
              obtain ⟨mm, hmm⟩ : ∃ mm, mm = m + (if a7 = true then 1 else 0) := ⟨_, rfl⟩
              rw [← hmm] at hMs
              have HMM := (show Hid _ from hmm)
              clear hmm
              have HM := (show Hid _ from hM)
              clear hM
              obtain ⟨wb, hwb⟩ : ∃ wb, wb = if cl = true then a2 else wrap64 (b0 + a2) := ⟨_, rfl⟩
              rw [← hwb] at KD ⊢
              clear hwb
              obtain ⟨Lk, hLk⟩ : ∃ Lk, Lk = keepsL g (if (cl && a7) = true then none else L) len3 := ⟨_, rfl⟩
              obtain ⟨fk, hfk⟩ : ∃ fk, fk = keepsF wo.heap.size g (if (cl && a7) = true then fun _ => none else f) len3 := ⟨_, rfl⟩
              rw [← hLk, ← hfk] at KD
              have HLk := (show Hid _ from hLk)
              have Hfk := (show Hid _ from hfk)
              clear hLk hfk
              have hE0 := KD.ec
              have cE0 : wk.cell? ⟨wp.heap.size + 1, 0, none⟩ = some (.int .i32 0) := by rw [hE0.cell]; rfl
              go_wp2_with fail
              refine (trylock_free _ _ cE0 (hE0.frozen _)).mono ?_
              rintro e w1 ⟨rfl, hw1⟩
              have hE1 : Blk w1 (wp.heap.size + 1) (ecCells 1 wp.heap.size wb) 66 := by rw [hw1]; exact hE0.set_same 0 _
              have HW1 := (show Hid _ from hw1)
              clear hw1
              go_wp2_with fail
              refine (Go.MuLone.unlock_held muLib _ _ (by rw [hE1.cell]; rfl) (hE1.frozen _)).mono ?_
              rintro e w2 ⟨rfl, hw2⟩
              have KD2 : KeepDone w w2 w.heap.size (wp.heap.size + 1) wp.heap.size wm.heap.size (wm.heap.size + 1) wo.heap.size m len3 wb cl Lk fk ob oe D u22 u21 m2 pn pe g tb := by rw [hw2, HW1.out]; exact KD.lock
              clear hw2 HW1 hE1 cE0 hE0 KD
              have hE2 := KD2.ec
              have c2 : w2.cell? ⟨wp.heap.size + 1, 2, none⟩ = some (.map (some wp.heap.size)) := by rw [hE2.cell]; rfl
              have c3 : w2.cell? ⟨wp.heap.size + 1, 3, none⟩ = some (.int .i64 wb) := by rw [hE2.cell]; rfl
              go_upto_if 248 with fail
              go_cut [42] from 227 to 257 (fun s42 w' => s42 = .int .i64 (mm : Nat) ∧ w2 = w')
              case first =>
                as_aux_lemma =>
                  cases a7 with
                  | false =>
                    go_wp2
                    go_meet
                    exact ⟨by rw [HMM.out]; rfl, rfl⟩
                  | true =>
                    have hl0 : (Instr.lookup 58 (.map (some wp.heap.size)) (.int .u64 0) false).run Yba.prog w2 = .ok (.pointer (some ⟨w.heap.size, 0, none⟩)) w2 := look_map KD2.map HM.out 0 (by omega)
                    have hnq := neq_same 24 (by simp) (some ⟨w.heap.size, 0, none⟩)
                    go_wp2
                    go_meet
                    exact ⟨by rw [HMM.out]; rfl, rfl⟩
              case rest =>
                obtain ⟨rfl, rfl⟩ := hcut
                go_upto_block 6 with (at_len; refine wpList_len_own _ rfl _ 58 rfl 38 24 Yba.underlying58 ptrElem wp.heap.size (m + 1) D rfl KD2.map ?_)
                clear c2 c3 hE2
                go_cut [30] from 258 to 301 (fun s30 w' => s30 = .int .i64 m ∧ KeepDone w w' w.heap.size (wp.heap.size + 1) wp.heap.size wm.heap.size (wm.heap.size + 1) wo.heap.size m len3 wb cl Lk fk ob oe D u22 u21 m2 pn pe g tb)
                case first =>
                  as_aux_lemma =>
                    have hnq24 := neq_same 24 (by simp)
                    have hnq44 := neq_same 44 (by simp)
                    go_wp2_with fail
                    go_loopw [43] (fun i wr => ∃ j : Nat, j ≤ m ∧ i = .int .i64 j ∧ KeepDone w wr w.heap.size (wp.heap.size + 1) wp.heap.size wm.heap.size (wm.heap.size + 1) wo.heap.size m len3 wb cl Lk fk ob oe D u22 u21 m2 pn pe g tb) (fun i _ => m - (intOf i).toNat)
                    case atStart => exact ⟨0, Nat.zero_le _, rfl, KD2⟩
                    case round =>
                      obtain ⟨j, hj, rfl, KD⟩ := hrel
                      by_cases hlt : j < m
                      · have hj0 : (0 : Int) ≤ (j : Int) := by omega
                        have hjm : (j : Int) < (m : Int) := by omega
                        have hE2 := KD.ec
                        have c2 : wr.cell? ⟨wp.heap.size + 1, 2, none⟩ = some (.map (some wp.heap.size)) := by rw [hE2.cell]; rfl
                        have co : wr.cell? ⟨wm.heap.size, j, none⟩ = some (.pointer (some ⟨ob j, 0, none⟩)) := by rw [KD.o.cell, ptrs_get _ _ _ hlt, if_pos hlt]
                        have cE : wr.cell? ⟨wm.heap.size + 1, j, none⟩ = some (.pointer (some (oe j))) := by rw [KD.oE.cell, ptrs_get _ _ _ hlt, if_pos hlt]
                        have hl : ∀ q, (Instr.lookup 58 (.map (some wp.heap.size)) (.int .u64 ((j : Int) + 1)) false).run Yba.prog (wr.drewN q) = .ok (.pointer (some ⟨ob j, 0, none⟩)) (wr.drewN q) := fun q => by
                          have := look_map (KD.drewN q).map HM.out (j + 1) (by omega)
                          rw [show othM (if a7 = true then some w.heap.size else none) ob m (j + 1) = some (ob j) from by unfold othM; rw [if_neg (by omega), if_pos (by omega)]; rfl] at this
                          exact this
                        cases cl with
                        | true =>
                          have hob := KD.othC rfl j hlt
                          have cob : wr.cell? ⟨ob j, 0, none⟩ = some (.pointer none) := by rw [hob.cell]; rfl
                          go_wp2_with fail
                          go_quiet (fail)
                          go_wp2_with fail
                          refine (load11 _ none (wr.drewN nq) cob (cv_nil _ _ _ (by simp))).mono ?_
                          rintro e wq ⟨rfl, rfl⟩
                          go_wp2
                          go_roundw
                          case rel => exact ⟨j + 1, by omega, by go_num, KD.drewN _⟩
                          case measure => simp [intOf]; omega
                        | false =>
                          go_wp2_with fail
                          go_quiet (fail)
                          go_wp2_with fail
                          obtain ⟨wq, hwq⟩ : ∃ wq, wq = wr.drewN nq := ⟨_, rfl⟩
                          have KDq : KeepDone w wq w.heap.size (wp.heap.size + 1) wp.heap.size wm.heap.size (wm.heap.size + 1) wo.heap.size m len3 wb false Lk fk ob oe D u22 u21 m2 pn pe g tb := by rw [hwq]; exact KD.drewN nq
                          rw [← hwq]
                          clear hwq
                          have coq : wq.cell? ⟨wm.heap.size, j, none⟩ = some (.pointer (some ⟨ob j, 0, none⟩)) := by rw [KDq.o.cell, ptrs_get _ _ _ hlt, if_pos hlt]
                          have cEq : wq.cell? ⟨wm.heap.size + 1, j, none⟩ = some (.pointer (some (oe j))) := by rw [KDq.oE.cell, ptrs_get _ _ _ hlt, if_pos hlt]
                          obtain ⟨So, dO, _⟩ := KDq.othS rfl j hlt
                          have hlk : ∀ q, Calls Yba.prog 12 #[.pointer (some ⟨ob j, 0, none⟩), .int .u64 0] (wq.drewN q) fun e w' => e = .returned (.pointer (some (oe j))) ∧ w' = wq.drewN q := fun q => look_q dO 0 (by omega) q
                          have HLK := (show Hid _ from hlk)
                          clear hlk
                          go_quiet ((go_at_call 12; exact Calls.quiet_of_same (HLK.out _)))
                          go_wp2
                          go_roundw
                          case rel => exact ⟨j + 1, by omega, by go_num, KDq.drewN _⟩
                          case measure => simp [intOf]; omega
                      · have hj' : j = m := by omega
                        subst hj'
                        go_wp2
                        go_meet
                        exact ⟨rfl, KD⟩
                case rest =>
                  obtain ⟨rfl, KD3⟩ := hcut
                  rename World => w3
                  clear KD2
                  obtain ⟨gone, hgone⟩ : ∃ gone, gone = (cl && a7) := ⟨_, rfl⟩
                  rw [← hgone] at HLk Hfk
                  have HG := (show Hid _ from hgone)
                  clear hgone
                  go_upto_region 82 with fail
                  go_cut [44] from 302 to 305 (fun s44 w' => s44 = .bool gone ∧ w3 = w')
                  case first =>
                    cases cl <;> cases a7 <;> (go_wp2; go_meet; exact ⟨by rw [HG.out]; rfl, rfl⟩)
                  case rest =>
                    obtain ⟨rfl, rfl⟩ := hcut
                    obtain ⟨isn, hisn⟩ : ∃ isn, isn = (((k : Int) == 0) || gone) := ⟨_, rfl⟩
                    have HI := (show Hid _ from hisn)
                    clear hisn
                    go_upto_region 83 with fail
                    go_cut [45] from 306 to 310 (fun s45 w' => s45 = .bool isn ∧ w3 = w')
                    case first =>
                      by_cases hk0 : k = 0
                      · have hkb : ((k : Int) == 0) = true := by simp [hk0]
                        clear hk0
                        cases gone <;> (go_wp2; go_meet; exact ⟨by rw [HI.out, hkb]; rfl, rfl⟩)
                      · have hkb : ((k : Int) == 0) = false := by simp; omega
                        clear hk0
                        cases gone <;> (go_wp2; go_meet; exact ⟨by rw [HI.out, hkb]; rfl, rfl⟩)
                    case rest =>
                      obtain ⟨rfl, rfl⟩ := hcut
                      obtain ⟨lv, hlv⟩ : ∃ lv : Nat, lv = if gone then 0 else k - 1 := ⟨_, rfl⟩
                      have HLV := (show Hid _ from hlv)
                      clear hlv
                      go_upto_if 312 with fail
                      go_cut [46] from 311 to 312 (fun s46 w' => s46 = .int .i64 lv ∧ w3 = w')
                      case first =>
                        cases gone <;> (go_wp2; go_meet; exact ⟨by rw [HLV.out]; rfl, rfl⟩)
                      case rest =>
                        obtain ⟨rfl, rfl⟩ := hcut
                        go_upto_block 8 with fail
                        go_cut [45, 46] from 313 to 336 (fun s45 s46 w' => ∃ (isx : Bool) (lx : Nat), s45 = .bool isx ∧ s46 = .int .i64 lx ∧ Lk = optL isx lx ∧ lx ≤ 131072 ∧ w3 = w')
                        case first =>
                          as_aux_lemma =>
                            have H0 : keepsL g (if gone = true then none else L) 0 = optL isn lv := by
                              rw [HI.out, HLV.out]
                              exact optL_start k gone L HKP.out.pd.leq
                            have hlvb : lv ≤ 131072 := by rw [HLV.out]; split <;> omega
                            have HH0 := (show Hid _ from H0)
                            clear H0
                            rcases H3 with h0 | ⟨b3, o3, rfl, hc3, hz3⟩
                            · subst h0
                              go_wp2_with fail
                              go_loop [315, 45, 46] (fun i x y => i = .int .i64 0 ∧ x = .bool isn ∧ y = .int .i64 lv) (fun _ _ _ => 0)
                              case atStart => exact ⟨rfl, rfl, rfl⟩
                              case round =>
                                obtain ⟨rfl, rfl, rfl⟩ := hrel
                                go_wp2
                                go_meet
                                exact ⟨isn, lv, rfl, rfl, by rw [HLk.out]; exact HH0.out, hlvb, rfl⟩
                            · go_wp2_with fail
                              go_loop [315, 45, 46] (fun i x y => ∃ (j : Nat) (isx : Bool) (lx : Nat), j ≤ len3 ∧ i = .int .i64 j ∧ x = .bool isx ∧ y = .int .i64 lx ∧ keepsL g (if gone = true then none else L) j = optL isx lx ∧ lx ≤ 131072) (fun i _ _ => len3 - (intOf i).toNat)
                              case atStart => exact ⟨0, isn, lv, Nat.zero_le _, rfl, rfl, rfl, HH0.out, hlvb⟩
                              case round =>
                                obtain ⟨j, isx, lx, hj, rfl, rfl, rfl, hkl, hlx⟩ := hrel
                                have HKL := (show Hid _ from hkl)
                                clear hkl
                                by_cases hlt : j < len3
                                · have hpw := hc3 j hlt
                                  have hz := hz3 j hlt
                                  have hb3 : b3 < w.heap.size := World.block_lt_of_cell? w _ hpw
                                  have hp : w3.cell? ⟨b3, o3 + j, none⟩ = some (.int .u64 (g j)) := by rw [World.cell?_of_block (w := w) (KD3.fr.keep b3 hb3 (by omega))]; exact hpw
                                  have hj0 : (0 : Int) ≤ (j : Int) := by omega
                                  have hjm : (j : Int) < (len3 : Int) := by omega
                                  obtain ⟨n, hn⟩ : ∃ n, n = g j := ⟨_, rfl⟩
                                  rw [← hn] at hp hz
                                  have HS : Hid (keepsL g (if gone = true then none else L) (j + 1) = keepL (optL isx lx) n) := by rw [hn, ← HKL.out]; rfl
                                  clear hn
                                  by_cases hbig : 16777216 < n
                                  · go_wp2
                                    go_round
                                    case rel => exact ⟨j + 1, isx, lx, by omega, by go_num, rfl, rfl, by rw [HS.out, optL_big hbig], hlx⟩
                                    case measure => simp [intOf]; omega
                                  · cases isx with
                                    | true =>
                                      have HL : true = true ∨ lx ≤ n / 256 := Or.inl rfl
                                      by_cases hmx : 2 * (n / 256) ≤ n / 256 + 1
                                      · go_wp2
                                        go_round
                                        case rel => exact ⟨j + 1, false, n / 256 + 1, by omega, by go_num, rfl, by go_num, HS.out.trans (optL_grow (mx := n / 256 + 1) (by omega) HL (by omega)), by omega⟩
                                        case measure => simp [intOf]; omega
                                      · go_wp2
                                        go_round
                                        case rel => exact ⟨j + 1, false, 2 * (n / 256), by omega, by go_num, rfl, by go_num, HS.out.trans (optL_grow (mx := 2 * (n / 256)) (by omega) HL (by omega)), by omega⟩
                                        case measure => simp [intOf]; omega
                                    | false =>
                                      by_cases hge : lx ≤ n / 256
                                      · have HL : false = true ∨ lx ≤ n / 256 := Or.inr hge
                                        by_cases hmx : 2 * (n / 256) ≤ n / 256 + 1
                                        · go_wp2
                                          go_round
                                          case rel => exact ⟨j + 1, false, n / 256 + 1, by omega, by go_num, rfl, by go_num, HS.out.trans (optL_grow (mx := n / 256 + 1) (by omega) HL (by omega)), by omega⟩
                                          case measure => simp [intOf]; omega
                                        · go_wp2
                                          go_round
                                          case rel => exact ⟨j + 1, false, 2 * (n / 256), by omega, by go_num, rfl, by go_num, HS.out.trans (optL_grow (mx := 2 * (n / 256)) (by omega) HL (by omega)), by omega⟩
                                          case measure => simp [intOf]; omega
                                      · go_wp2
                                        go_round
                                        case rel => exact ⟨j + 1, false, lx, by omega, by go_num, rfl, rfl, by rw [HS.out, optL_stay (by omega) (by omega)], hlx⟩
                                        case measure => simp [intOf]; omega
                                · have hj' : j = len3 := by omega
                                  subst hj'
                                  go_wp2
                                  go_meet
                                  exact ⟨isx, lx, rfl, rfl, by rw [HLk.out]; exact HKL.out, hlx, rfl⟩
                        case rest =>
                          obtain ⟨isx, lx, rfl, rfl, hLx, hlxb, rfl⟩ := hcut
                          obtain ⟨Sd, hDd, _⟩ := KD3.dict
                          rw [hLx] at hDd
                          have HD := (show Hid _ from hDd)
                          obtain ⟨q, cq, vq, hq1, hq2⟩ := dict_load hDd
                          clear hLx hDd HLk
                          have HQ1 := (show Hid _ from hq1)
                          clear hq1
                          go_upto_region 97 with (go_at_call 11; refine (load11 _ q _ cq vq).mono ?_; rintro e w' ⟨rfl, rfl⟩)
                          go_upto_if 341 with fail
                          go_cut [50] from 337 to 353 (fun s50 w' => s50 = .pointer q ∧ w3 = w')
                          case first =>
                            as_aux_lemma =>
                              cases isx with
                              | true =>
                                obtain rfl := HQ1.out rfl
                                go_wp2
                                go_meet
                                exact ⟨rfl, rfl⟩
                              | false =>
                                obtain ⟨bx, ba, rfl, cbx⟩ := hq2 rfl
                                go_wp2
                                go_meet
                                exact ⟨rfl, rfl⟩
                          case rest =>
                            obtain ⟨rfl, rfl⟩ := hcut
                            clear hq2 vq cq HQ1
                            have hW : ∀ p, fk p = wantF wo.heap.size g len3 pn pe m2 gone p := fun p => by rw [Hfk.out]; exact kept_want _ _ _ _ _ _ _ _ HKP.out.pd.feq p
                            have HW := (show Hid _ from hW)
                            clear hW Hfk
                            have hnq := neq_same 44 (by simp)
                            have hG : ∀ j, j < len3 → w3.cell? ⟨wo.heap.size, j * 4, none⟩ = some (.int .u64 (g j)) := fun j hj => by
                              obtain ⟨cs, hb, _, hc⟩ := KD3.rd
                              rw [hb.cell]
                              exact (hc j hj).1
                            have HGG := (show Hid _ from hG)
                            clear hG
                            have hmb := HKP.out.pd.mb
                            have hpb := HKP.out.pd.pb
                            have HPB := (show Hid _ from hpb)
                            clear hpb
                            go_upto_block 10 with fail
                            go_cut [38] from 354 to 370 (fun s38 w' => s38 = .slice (some ⟨wo.heap.size, 0, none⟩) len3 len3 ∧ w3 = w')
                            case first =>
                              as_aux_lemma =>
                                rcases H3 with h0 | ⟨b3, o3, rfl, hc3, hz3⟩
                                · subst h0
                                  go_wp2_with fail
                                  go_loop [356] (fun i => i = .int .i64 0) (fun _ => 0)
                                  case atStart => rfl
                                  case round =>
                                    subst hrel
                                    go_wp2
                                    go_meet
                                    exact ⟨rfl, rfl⟩
                                · go_wp2_with fail
                                  go_loop [356] (fun i => ∃ (j : Nat), j ≤ len3 ∧ i = .int .i64 j) (fun i => len3 - (intOf i).toNat)
                                  case atStart => exact ⟨0, Nat.zero_le _, rfl⟩
                                  case round =>
                                    obtain ⟨j, hj, rfl⟩ := hrel
                                    by_cases hlt : j < len3
                                    · have hpw := hc3 j hlt
                                      have hz := hz3 j hlt
                                      have hb3 : b3 < w.heap.size := World.block_lt_of_cell? w _ hpw
                                      have hp : w3.cell? ⟨b3, o3 + j, none⟩ = some (.int .u64 (g j)) := by rw [World.cell?_of_block (w := w) (KD3.fr.keep b3 hb3 (by omega))]; exact hpw
                                      have hj0 : (0 : Int) ≤ (j : Int) := by omega
                                      have hjm : (j : Int) < (len3 : Int) := by omega
                                      go_wp2_with fail
                                      refine (look_any HD.out (g j) hz).mono ?_
                                      rintro e w' ⟨rfl, rfl⟩
                                      rw [HW.out]
                                      go_wp2_with fail
                                      refine (want_any (g j) wo.heap.size len3 len3 g u22 u21 m2 pn pe gone w3 hz h3 hgb HGG.out hmb HPB.out (preAt_of KD3.rN KD3.rE)).mono ?_
                                      rintro e w' ⟨rfl, rfl⟩
                                      go_wp2
                                      go_round
                                      case rel => exact ⟨j + 1, by omega, by go_num⟩
                                      case measure => simp [intOf]; omega
                                    · have hj' : j = len3 := by omega
                                      subst hj'
                                      go_wp2
                                      go_meet
                                      exact ⟨rfl, rfl⟩
                            case rest =>
                              obtain ⟨rfl, rfl⟩ := hcut
                              go_upto_region 108 with fail
                              go_cut [371, 372, 373] from 371 to 373 (fun x y z w' => u22 = x ∧ y = .int .i64 m2 ∧ z = .int .i64 0 ∧ w3 = w')
                              case first =>
                                as_aux_lemma =>
                                  rcases own_cells KD3.rN with ⟨h0, hv⟩ | ⟨nb, cn, hv, _⟩
                                  · subst hv h0
                                    go_wp2
                                    go_meet
                                    exact ⟨rfl, rfl, rfl, rfl⟩
                                  · subst hv
                                    go_wp2
                                    go_meet
                                    exact ⟨rfl, rfl, rfl, rfl⟩
                              case rest =>
                                obtain ⟨rfl, rfl, rfl, rfl⟩ := hcut
                                go_upto_block 12 with fail
                                go_cut [38] from 374 to 387 (fun s38 w' => s38 = .slice (some ⟨wo.heap.size, 0, none⟩) len3 len3 ∧ w3 = w')
                                case first =>
                                  as_aux_lemma =>
                                    have PA := preAt_of KD3.rN KD3.rE
                                    have HPA := (show Hid _ from PA)
                                    clear PA
                                    rcases own_cells KD3.rN with ⟨h0, hv⟩ | ⟨nb, cn, hv, hcn⟩
                                    · subst hv h0
                                      go_wp2_with fail
                                      go_loop [373] (fun i => i = .int .i64 0) (fun _ => 0)
                                      case atStart => rfl
                                      case round =>
                                        subst hrel
                                        go_wp2
                                        go_meet
                                        exact ⟨rfl, rfl⟩
                                    · subst hv
                                      go_wp2_with fail
                                      go_loop [373] (fun i => ∃ (j : Nat), j ≤ m2 ∧ i = .int .i64 j) (fun i => m2 - (intOf i).toNat)
                                      case atStart => exact ⟨0, Nat.zero_le _, rfl⟩
                                      case round =>
                                        obtain ⟨j, hj, rfl⟩ := hrel
                                        by_cases hlt : j < m2
                                        · have hp : w3.cell? ⟨nb, j, none⟩ = some (.int .u64 (pn j)) := by rw [hcn j hlt]; simp [rowN, hlt]
                                          clear hcn
                                          have hz := HPB.out j hlt
                                          have hj0 : (0 : Int) ≤ (j : Int) := by omega
                                          have hjm : (j : Int) < (m2 : Int) := by omega
                                          go_wp2_with fail
                                          refine (look_any HD.out (pn j) hz).mono ?_
                                          rintro e w' ⟨rfl, rfl⟩
                                          rw [HW.out]
                                          go_wp2_with fail
                                          refine (want_any (pn j) wo.heap.size len3 len3 g _ u21 m2 pn pe gone w3 hz h3 hgb HGG.out hmb HPB.out HPA.out).mono ?_
                                          rintro e w' ⟨rfl, rfl⟩
                                          go_wp2
                                          go_round
                                          case rel => exact ⟨j + 1, by omega, by go_num⟩
                                          case measure => simp [intOf]; omega
                                        · have hj' : j = m2 := by omega
                                          subst hj'
                                          go_wp2
                                          go_meet
                                          exact ⟨rfl, rfl⟩
                                case rest =>
                                  obtain ⟨rfl, rfl⟩ := hcut
                                  clear HGG HW HD hnq
                                  as_aux_lemma =>
                                    rcases H3 with h0 | ⟨b3, o3, rfl, hc3, hz3⟩
                                    · subst h0
                                      go_wp2_with fail
                                      go_loop [390] (fun i => i = .int .i64 0) (fun _ => 0)
                                      case atStart => rfl
                                      case round =>
                                        subst hrel
                                        go_wp2
                                        go_ret
                                        exact ⟨rfl, KD3.fr.below (Nat.le_refl _) (fun b hb => hb)⟩
                                    · go_wp2_with fail
                                      go_loopw [390] (fun i wr => ∃ (j : Nat), j ≤ len3 ∧ i = .int .i64 j ∧ KeepDone w wr w.heap.size (wp.heap.size + 1) wp.heap.size wm.heap.size (wm.heap.size + 1) wo.heap.size m len3 wb cl Lk fk ob oe D u22 u21 m2 pn pe g tb) (fun i _ => len3 - (intOf i).toNat)
                                      case atStart => exact ⟨0, Nat.zero_le _, rfl, KD3⟩
                                      case round =>
                                        obtain ⟨j, hj, rfl, KD⟩ := hrel
                                        by_cases hlt : j < len3
                                        · have hpw := hc3 j hlt
                                          have hz := hz3 j hlt
                                          have hb3 : b3 < w.heap.size := World.block_lt_of_cell? w _ hpw
                                          have hp : wr.cell? ⟨b3, o3 + j, none⟩ = some (.int .u64 (g j)) := by rw [World.cell?_of_block (w := w) (KD.fr.keep b3 hb3 (by omega))]; exact hpw
                                          have hj0 : (0 : Int) ≤ (j : Int) := by omega
                                          have hjm : (j : Int) < (len3 : Int) := by omega
                                          obtain ⟨cs, rB, _, hcs⟩ := KD.rd
                                          have c0 : wr.cell? ⟨wo.heap.size, j * 4, none⟩ = some (.int .u64 (g j)) := by rw [rB.cell]; exact (hcs j hlt).1
                                          have c2 : wr.cell? ⟨wo.heap.size, j * 4 + 1 + 1, none⟩ = some (.slice (some ⟨tb j, 0, none⟩) 2 2) := by rw [rB.cell]; exact (hcs j hlt).2
                                          have ct : wr.cell? ⟨tb j, 0, none⟩ = some (.int .u8 ((j : Int) % 256)) := by rw [(KD.txt j hlt).cell]; rfl
                                          go_wp2_with fail
                                          go_quiet (fail)
                                          go_wp2
                                          go_roundw
                                          case rel => exact ⟨j + 1, by omega, by go_num, KD.drewN _⟩
                                          case measure => simp [intOf]; omega
                                        · have hj' : j = len3 := by omega
                                          subst hj'
                                          go_wp2
                                          go_ret
                                          exact ⟨rfl, KD.fr.below (Nat.le_refl _) (fun b hb => hb)⟩
end Go.Proofs.Ybulkefuq
