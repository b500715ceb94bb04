/-
  The law's walk.
-/
import Derived.Test.YbulkefvsAny
import Derived.Conc.SmallLaws
import Derived.Laws.MakeOwn
import Derived.Laws.CopyOwn
import Derived.Deep.DeepCutAuto
import Derived.Deep.CutBlock
import Derived.Carry
import Derived.WideMake
import Derived.WalkLawsBesides
import Derived.LaidEql
namespace Go.Proofs.Ybulkefvs
open Go.RowKit

theorem made_eq (bl n : Nat) : madeCells #[Value.chan none] (n * 1) = chs bl 0 n := by
  apply Array.ext_getElem?
  intro i
  by_cases hi : i < n
  · simp [madeCells, chs, hi, Nat.mod_one]
  · simp [madeCells, chs, hi]
theorem make24 (bl n : Nat) (h : n ≤ 65535) (w : World) :
    (Instr.makeSlice 24 (.int .i64 n) (.int .i64 n)).run Yba.prog w = .ok (.slice (some ⟨w.heap.size, 0, none⟩) n n) (w.alloc (.cells (chs bl 0 n) 25)) := by
  obtain ⟨i, hi, hs, hb, hz⟩ := info25
  have := run_make (P := Yba.prog) w 24 25 i _ Yba.underlying24 hi hz .i64 .i64 n n (by omega) (Int.le_refl _) (by rw [hb]; omega) (by omega)
  rw [this, hs, ← made_eq bl n]
  simp only [Int.toNat_natCast]
  rfl
theorem chan25 (w : World) : (Instr.makeChan 25 (.int .i64 0)).run Yba.prog w = .ok (.chan (some w.heap.size)) (w.alloc (.chan 0 #[] false 0 0 false)) := by kernel_rfl
theorem chs_set (bl k n : Nat) (h : k < n) : (chs bl k n).setIfInBounds k (.chan (some (bl + 1 + k))) = chs bl (k + 1) n := by
  apply Array.ext_getElem?
  intro i
  rw [Array.getElem?_setIfInBounds]
  by_cases e : k = i
  · subst e
    simp [chs, h]
  · rw [if_neg e]
    by_cases hi : i < n
    · simp only [chs, Array.getElem?_ofFn, hi, dif_pos]
      by_cases h2 : i < k
      · simp [h2, show i < k + 1 by omega]
      · simp [h2, show ¬ i < k + 1 by omega]
    · simp [chs, hi]

theorem below_setCells {B b : Nat} (hb : B ≤ b) : ∀ (vs : List Value) (o : Nat) {a w : World}, Below B a w → Below B a (w.setCells b o vs)
  | [], _, _, _, h => h
  | v :: r, o, _, _, h => below_setCells hb r (o + 1) (h.setCell (p := ⟨b, o, none⟩) hb v)

/-- A copy into a row just made, as long as the source. -/
theorem copy_new {T E : TypeId} (hu : Yba.prog.underlying T = some (.slice E)) (hs : (Yba.prog.info? E).map (·.size) = some 1) (w : World) (n c : Nat) (cs0 cs : Array Value) (h0 : cs0.size = n) (h1 : cs.size = n)
    (hone : ∀ (i : Nat) (u : Value), cs[i]? = some u → u.oneCell' = true) (src : Option Addr) (hsrc : 0 < n → ∃ a, src = some a ∧ ∀ (j : Nat) (v : Value), cs[j]? = some v → a.block < w.heap.size ∧ w.cell? (a.add j) = some v) :
    ∃ w2, (∀ ty, (Builtin.copy_ #[T, T] ty #[.slice (some ⟨w.heap.size, 0, none⟩) n n, .slice src n c]).run Yba.prog (w.alloc (.cells cs0 E)) = .ok (.int .i64 n) w2) ∧ Blk w2 w.heap.size cs E ∧ Below w.heap.size w w2 := by
  have hB := Blk.new w cs0 E
  by_cases hn : n = 0
  · subst hn
    have e : cs = cs0 := by rw [Array.size_eq_zero_iff.1 h0, Array.size_eq_zero_iff.1 h1]
    refine ⟨_, fun ty => run_copy_none _ T T ty E _ _ 0 0 0 c hu hs rfl, by rw [e]; exact hB, (Below.refl _ w).alloc (Nat.le_refl _) _⟩
  · obtain ⟨a, rfl, hc⟩ := hsrc (by omega)
    have hlen : cs.toList.length = n := by simpa using h1
    refine ⟨(w.alloc (.cells cs0 E)).setCells w.heap.size 0 cs.toList, fun ty => ?_, ?_, below_setCells (Nat.le_refl _) _ _ ((Below.refl _ w).alloc (Nat.le_refl _) _)⟩
    · have := run_copy_cells (P := Yba.prog) (w.alloc (.cells cs0 E)) T T ty E w.heap.size 0 n n a n c cs.toList hu hs (by rw [hlen]; simp)
        (fun j v hv => by
          have := hc j v (by rw [← Array.getElem?_toList]; exact hv)
          rw [World.cell?_alloc_lt _ _ _ (by unfold Addr.add; split <;> simpa using this.1)]
          exact this.2)
        (fun j hj => by rw [hB.cell]; simp; omega) (fun j hj => hB.frozen _)
        (fun v hv => by
          obtain ⟨t, ht, e⟩ := List.getElem_of_mem hv
          exact hone t v (by rw [← Array.getElem?_toList, List.getElem?_eq_getElem ht]; exact congrArg some e))
      rw [this, hlen]
      rfl
    · obtain ⟨cs', k1, k2, -, k4, -⟩ := Blk.setCells cs.toList 0 hB
      have : cs' = cs := by
        apply Array.ext_getElem?
        intro j
        by_cases hj : j < n
        · have := k4 j (by omega) (by omega)
          simpa using this
        · rw [Array.getElem?_eq_none (by omega), Array.getElem?_eq_none (by omega)]
      rw [this] at k1
      exact k1

theorem put43 (w : World) : ∃ w', (Instr.mapUpdate 43 (.map (some w.heap.size)) (.int .i64 0) (.slice none 0 0)).run Yba.prog (w.alloc (.map #[] 0)) = .ok () w' ∧ Below w.heap.size w w' := by
  have hb : (w.alloc (.map #[] 0)).heap[w.heap.size]? = some (.map #[] 0) := by show (w.heap.push _)[_]? = _; simp
  refine ⟨{ (w.alloc (.map #[] 0)) with heap := (w.alloc (.map #[] 0)).heap.setIfInBounds w.heap.size (.map #[{ key := .int .i64 0, val := .slice none 0 0, born := 0 }] 1) }, ?_, ?_⟩
  · have hf : Instr.findNow (.int .i64) (.int .i64 0) ([] : List MapEntry) 0 = some none := rfl
    have hc : (Instr.checkKey false 10000 3 (.int .i64 0)).run Yba.prog (w.alloc (.map #[] 0)) = .ok () (w.alloc (.map #[] 0)) := MapKept.run_checkKey (k := .int .i64 0) Yba.underlying3 (by simp [MapKept.IsKey]) false 9999
    simp [Instr.mapUpdate, run_underlying Yba.underlying43, MapKept.run_getObj_map hb, hc, MapKept.run_findKey Yba.underlying3 hf, MapKept.run_setObj_map _ hb, Result.andThen]
  · refine ((Below.refl _ w).alloc (Nat.le_refl _) _).trans ⟨rfl, rfl, rfl, by simp, fun k hk => by simp only; rw [Array.getElem?_setIfInBounds_ne (by omega)]⟩

theorem info5 : ∃ i : TypeInfo, Yba.prog.info? 5 = some i ∧ i.size = 1 ∧ i.bytes = 1 ∧ i.zero = some (.int .u8 0) := by
  have h : (Yba.prog.info? 5).map (fun i : TypeInfo => (i.size, i.bytes, i.zero)) = some (1, 1, some (.int .u8 0)) := by kernel_rfl
  obtain ⟨i, hi, e⟩ := Option.map_eq_some_iff.1 h
  simp only [Prod.mk.injEq] at e
  exact ⟨i, hi, e.1, e.2.1, e.2.2⟩
theorem make23 (n : Nat) (h : n ≤ 140737488355328) (w : World) :
    (Instr.makeSlice 23 (.int .i64 n) (.int .i64 n)).run Yba.prog w = .ok (.slice (some ⟨w.heap.size, 0, none⟩) n n) (w.alloc (.cells (madeCells #[.int .u8 0] n) 5)) := by
  obtain ⟨i, hi, hs, hb, hz⟩ := info5
  have := run_make (P := Yba.prog) w 23 5 i _ Yba.underlying23 hi hz .i64 .i64 n n (by omega) (Int.le_refl _) (by rw [hb]; omega) (by omega)
  rw [this, hs]
  simp only [Int.toNat_natCast, Nat.mul_one]
  rfl

theorem Blk.below {B : Nat} {w w' : World} {b : Nat} {cs : Array Value} {T : TypeId} (h : Blk w b cs T) (k : Below B w w') (hb : b < B) : Blk w' b cs T := by
  unfold Blk at *
  rw [k.block b hb]
  exact h
theorem FetchAt.below {B : Nat} {w w' : World} {b : Nat} {st taken : Int} {held : Bool} {line : Value} (h : FetchAt w b st taken held line) (k : Below B w w') (hb : b < B) : FetchAt w' b st taken held line := by
  obtain ⟨cs, h0, h1⟩ := h
  exact ⟨cs, h0.below k hb, h1⟩

theorem neq43 (w : World) : (binOp BinOp.neq 43 (.map none) (.map none) ).run Yba.prog w = .ok (.bool false) w := by
  kernel_rfl
theorem neq25 (a : Nat) (w : World) : (binOp BinOp.neq 25 (.chan (some a)) (.chan (some a)) ).run Yba.prog w = .ok (.bool false) w := by
  have h : ∀ b, (binOp BinOp.neq 25 (.chan (some a)) (.chan (some b)) ).run Yba.prog w = .ok (.bool (!(some a == some b))) w := fun b => by kernel_rfl
  rw [h]
  simp
theorem neq26 (a : Addr) (w : World) : (binOp BinOp.neq 26 (.pointer (some a)) (.pointer (some a)) ).run Yba.prog w = .ok (.bool false) w := by
  have hz : ∃ i, Yba.prog.info? 42 = some i ∧ i.size = 91 := by
    have h : (Yba.prog.info? 42).map (fun i : TypeInfo => i.size) = some 91 := by kernel_rfl
    exact Option.map_eq_some_iff.1 h
  obtain ⟨i, hi, -⟩ := hz
  have h : ∀ d : Nat, (Op.equalIn (d + 1) 26 (.pointer (some a)) (.pointer (some a))).run Yba.prog w = .ok true w := fun d => by
    simp [Op.equalIn, run_underlying Yba.underlying26, sizeOf, typeInfo, hi, run_sameAddr_same]
  simp only [binOp]
  simp [Op.equal, Op.maxDepth, h 9999]

set_option maxHeartbeats 4000000 in
set_option maxRecDepth 100000 in
theorem law (taken : Int) (held : Bool) (n : Nat) (far : Int) (keeps turn : Bool) (size next hashed : Int) (has : Bool) (a10 : Option Addr) (len10 cap10 : Nat) (w : World) (hn : n ≤ 65535) (hl10 : len10 ≤ 140737488355328)
    (z10 : Array Value) (hz10 : z10.size = len10) (hone10 : ∀ (i : Nat) (u : Value), z10[i]? = some u → u.oneCell' = true) (ha10 : ∀ x, a10 = some x → ∀ (j : Nat) (v : Value), z10[j]? = some v → x.block < w.heap.size ∧ w.cell? (x.add j) = some v) (hnil : a10 = none → len10 = 0 ∧ cap10 = 0) :
    Calls Yba.prog 3 #[.int .i64 taken, .bool held, .int .u16 n, .int .i64 far, .bool keeps, .bool turn, .int .i64 size, .int .i64 next, .int .i64 hashed, .bool has, .slice a10 len10 cap10] w fun e w' => e = .returned (.bool true) ∧ Below w.heap.size w w' := by
  have hmk := make24 w.heap.size n hn
  have hch := chan25
  go_enter Yba.func3, Yba.ntmps3
  go_upto_block 0 with fail
  go_cut [25] from 39 to 47 (fun s25 w1 => s25 = .int .i64 n ∧ Blk w1 w.heap.size (chs w.heap.size n n) 25 ∧ w1.heap.size = w.heap.size + 1 + n ∧ (∀ j, j < n → w1.heap[w.heap.size + 1 + j]? = some (.chan 0 #[] false 0 0 false)) ∧ Below w.heap.size w w1)
  case first =>
    as_aux_lemma =>
      go_wp2_with fail
      go_loopw [25] (fun i wr => ∃ k : Nat, k ≤ n ∧ i = .int .i64 k ∧ Blk wr w.heap.size (chs w.heap.size k n) 25 ∧ wr.heap.size = w.heap.size + 1 + k ∧ (∀ j, j < k → wr.heap[w.heap.size + 1 + j]? = some (.chan 0 #[] false 0 0 false)) ∧ Below w.heap.size w wr) (fun i _ => n - (intOf i).toNat)
      case atStart => exact ⟨0, Nat.zero_le _, rfl, Blk.new _ _ _, by simp, fun j hj => by omega, (Below.refl _ w).alloc (Nat.le_refl _) _⟩
      case round =>
        obtain ⟨k, hk, rfl, hB, hs, hC, hBel⟩ := hrel
        have hs' := (show Hid _ from hs)
        have hsz : wr.heap.size = w.heap.size + 1 + k := hs
        clear hs
        by_cases hlt : k < n
        · have ck : (wr.alloc (.chan 0 #[] false 0 0 false)).cell? ⟨w.heap.size, k, none⟩ = some (.chan none) := by
            rw [(hB.alloc _).cell]; simp [chs, hlt]
          have zk : (wr.alloc (.chan 0 #[] false 0 0 false)).frozen? ⟨w.heap.size, k, none⟩ = false := (hB.alloc _).frozen _
          have hk0 : (0 : Int) ≤ (k : Int) := by omega
          have hkm : (k : Int) < (n : Int) := by omega
          go_wp2
          go_roundw
          case rel =>
            refine ⟨k + 1, by omega, by go_num, ?_, by simp [World.setCell]; omega, fun j hj => ?_, ?_⟩
            · have := (hB.alloc (.chan 0 #[] false 0 0 false)).set_same k (.chan (some (w.heap.size + 1 + k)))
              rw [chs_set _ _ _ hlt] at this
              exact this
            · rw [Below.heap_setCell _ _ _ _ (by show _ ≠ w.heap.size; omega)]
              by_cases e : j = k
              · subst e
                show (wr.heap.push _)[_]? = _
                rw [← hsz]
                simp
              · rw [Below.heap_alloc _ _ _ (by omega)]
                exact hC j (by omega)
            · exact (hBel.alloc (by omega) _).setCell (Nat.le_refl _) _
          case measure => simp [intOf]; omega
        · have hkm : k = n := by omega
          subst hkm
          go_wp2
          go_meet
          exact ⟨rfl, hB, hsz, hC, hBel⟩
  case rest =>
    obtain ⟨w1, hw1⟩ : ∃ w1, w1 = wc := ⟨_, rfl⟩
    subst hw1
    obtain ⟨rfl, hB1, hs1, hC1, hBel1⟩ := hcut
    have HS := (show Hid _ from hs1)
    have HC := (show Hid _ from hC1)
    have HB1 := (show Hid (Blk w1 w.heap.size (chs w.heap.size n n) 25) from hB1)
    obtain ⟨w2, hcopy, hB2, hBel2⟩ := copy_new (T := 24) (E := 25) Yba.underlying24 (by kernel_rfl) w1 n n (chs w.heap.size 0 n) (chs w.heap.size n n) (chs_size _ _ _) (chs_size _ _ _) (chs_one _ _ _) (some ⟨w.heap.size, 0, none⟩)
      (fun _ => ⟨_, rfl, fun j v hv => ⟨hB1.lt, by rw [Addr.add_lit, hB1.cell, Nat.zero_add]; exact hv⟩⟩)
    clear hs1 hC1 hB1
    go_upto_if 58 with fail
    obtain ⟨W3, hW3⟩ : ∃ W3, W3 = w2.alloc (.cells (((Yba.zeroCells42.setIfInBounds 88 (.int .i64 taken)).setIfInBounds 89 (.bool held)).setIfInBounds 90 (.slice (some ⟨w.heap.size, 0, none⟩) n n)) 42) := ⟨_, rfl⟩
    rw [← hW3]
    have hF3 : FetchAt W3 w2.heap.size 0 taken held (.slice (some ⟨w.heap.size, 0, none⟩) n n) := by
      rw [hW3]
      exact ⟨_, Blk.new _ _ _, by kernel_rfl, by kernel_rfl, by kernel_rfl, by kernel_rfl⟩
    have hB3 : Below w2.heap.size w2 W3 := by rw [hW3]; exact (Below.refl _ w2).alloc (Nat.le_refl _) _
    have hz3 : w2.heap.size < W3.heap.size := by rw [hW3]; simp
    clear hW3
    go_cut [28] from 59 to 60 (fun s28 w4 => ∃ m : Option Nat, s28 = .map m ∧ Below W3.heap.size W3 w4)
    case first =>
      as_aux_lemma =>
        cases has with
        | false =>
          go_wp2
          go_meet
          exact ⟨none, rfl, Below.refl _ _⟩
        | true =>
          have hmm := @run_makeMap Yba.prog
          obtain ⟨w4, hput, hB4⟩ := put43 W3
          go_wp2
          go_meet
          exact ⟨some _, rfl, hB4⟩
    case rest =>
      obtain ⟨w4, hw4⟩ : ∃ w4, w4 = wc := ⟨_, rfl⟩
      subst hw4
      obtain ⟨am, rfl, hB4⟩ := hcut
      have hBel4 : Below w.heap.size w w4 := hBel1.trans (((hBel2.mono hBel1.size).trans (hB3.mono (Nat.le_trans hBel1.size hBel2.size))).trans (hB4.mono (by have := hBel1.size; have := hBel2.size; omega)))
      go_upto_if 62 with fail
      go_cut [29] from 63 to 68 (fun s29 w5 => ∃ (ak : Option Addr) (l c : Nat), s29 = .slice ak l c ∧ Below w4.heap.size w4 w5)
      case first =>
        as_aux_lemma =>
          cases a10 with
          | none =>
            obtain ⟨rfl, rfl⟩ := hnil rfl
            clear hnil ha10
            go_wp2
            go_meet
            exact ⟨none, 0, 0, rfl, Below.refl _ _⟩
          | some x =>
            have hmk23 := make23 len10 hl10
            obtain ⟨w5, hcopy5, -, hB5⟩ := copy_new (T := 23) (E := 5) Yba.underlying23 (by kernel_rfl) w4 len10 cap10 (madeCells #[.int .u8 0] len10) z10 (size_madeCells _ _) hz10 hone10 (some x)
              (fun _ => ⟨x, rfl, fun j v hv => ⟨Nat.lt_of_lt_of_le (ha10 x rfl j v hv).1 hBel4.size, by rw [hBel4.cell (by unfold Addr.add; split <;> simpa using (ha10 x rfl j v hv).1)]; exact (ha10 x rfl j v hv).2⟩⟩)
            clear hnil ha10 hz10 hone10 hcopy
            go_wp2
            go_meet
            exact ⟨_, _, _, rfl, hB5⟩
      case rest =>
        obtain ⟨w5, hw5⟩ : ∃ w5, w5 = wc := ⟨_, rfl⟩
        subst hw5
        obtain ⟨ak, lk, ck, rfl, hB5⟩ := hcut
        clear hmk hch hcopy hnil ha10 hz10 hone10
        have k1 := hBel1.size
        have k2 := hBel2.size
        have k3 := hB3.size
        have k4 := hB4.size
        have hsz1 : w1.heap.size = w.heap.size + 1 + n := HS.out
        have l2 : w1.heap.size < w2.heap.size := hB2.lt
        obtain ⟨w6, hw6⟩ : ∃ w6, w6 = w5.alloc (.cells (dcells w2.heap.size size next hashed (.map am) far (.slice ak lk ck) keeps turn) 62) := ⟨_, rfl⟩
        have hB6 : Below w5.heap.size w5 w6 := by rw [hw6]; exact (Below.refl _ w5).alloc (Nat.le_refl _) _
        have c15 : Below w1.heap.size w1 w5 := hBel2.trans ((hB3.mono k2).trans ((hB4.mono (by omega)).trans (hB5.mono (by omega))))
        have c16 : Below w1.heap.size w1 w6 := c15.trans (hB6.mono c15.size)
        have c26 : Below w2.heap.size w2 w6 := hB3.trans ((hB4.mono k3).trans ((hB5.mono (by omega)).trans (hB6.mono (by have := hB5.size; omega))))
        have c36 : Below W3.heap.size W3 w6 := hB4.trans ((hB5.mono k4).trans (hB6.mono (by have := hB5.size; omega)))
        have hF6 : FetchAt w6 w2.heap.size 0 taken held (.slice (some ⟨w.heap.size, 0, none⟩) n n) := hF3.below c36 hz3
        have hD6 : Blk w6 w5.heap.size (dcells w2.heap.size size next hashed (.map am) far (.slice ak lk ck) keeps turn) 62 := by rw [hw6]; exact Blk.new _ _ _
        have hL6 : Blk w6 w.heap.size (chs w.heap.size n n) 25 := HB1.out.below c16 (by omega)
        have hC6 : 1 ≤ n → w6.heap[w.heap.size + 1]? = some (.chan 0 #[] false 0 0 false) := fun h => by
          rw [c16.block _ (by omega)]
          exact HC.out 0 (by omega)
        have hO6 : Blk w6 w1.heap.size (chs w.heap.size n n) 25 := hB2.below c26 l2
        have l5 : w2.heap.size < w5.heap.size := by have := hB5.size; omega
        have hBack := back_any w5.heap.size w2.heap.size w.heap.size n taken size next hashed far (.map am) (.slice ak lk ck) held keeps turn w6 hF6 hD6 (by omega) hn hL6 hC6 (by omega) (fun _ => by omega) l5
        have hBel6 : Below w.heap.size w w6 := hBel1.trans (c16.mono k1)
        have HBack := (show Hid _ from hBack)
        have HW6 := (show Hid _ from hw6)
        clear hBack hF6 hD6 hL6 hC6 c15 c16 c26 c36 hB6 hB5 hB4 hB3 hBel2 hBel1 hBel4 hF3 hB2 hz3 hsz1 hw6
        go_upto_if 86 with (go_at_call 5; refine (show Calls Yba.prog 5 _ _ _ from HW6.out ▸ HBack.out).mono ?_; rintro e w7 ⟨rfl, hF7, hD7, hL7, hFr7⟩)
        rw [← HW6.out] at hFr7
        have hO7 : Blk w7 w1.heap.size (chs w.heap.size n n) 25 := hFr7.blk hO6 (by have := HS.out; omega)
        have hBel7 : Below w.heap.size w w7 := hBel6.trans (hFr7.below hBel6.size (fun b hb => by rcases hb with h | h | h | h <;> omega))
        obtain ⟨tk, htk⟩ : ∃ tk, tk = wrap64 (taken - roomOf far size keeps) := ⟨_, rfl⟩
        obtain ⟨hd, hhd⟩ : ∃ hd, hd = heldOf turn held n := ⟨_, rfl⟩
        obtain ⟨ln, hln⟩ : ∃ ln, ln = n - outOf turn := ⟨_, rfl⟩
        rw [← htk, ← hhd, ← hln] at hF7
        rw [← hln] at hL7
        have HTK := (show Hid _ from htk)
        have HHD := (show Hid _ from hhd)
        have HLN := (show Hid _ from hln)
        have HFR := (show Hid _ from hFr7)
        clear htk hhd hln HBack HW6 hFr7 hBel6 hO6
        go_cut [31] from 87 to 89 (fun s31 w8 => s31 = .int .i64 tk ∧ w7 = w8)
        case first =>
          as_aux_lemma =>
            cases keeps with
            | false =>
              go_wp2
              go_meet
              exact ⟨by rw [HTK.out]; rfl, rfl⟩
            | true =>
              go_wp2
              go_meet
              exact ⟨by rw [HTK.out, want_eq]; rfl, rfl⟩
        case rest =>
          obtain ⟨rfl, rfl⟩ := hcut
          go_upto_if 92 with fail
          go_cut [32, 33] from 93 to 96 (fun s32 s33 w8 => w7 = w8 ∧ s32 = .bool hd ∧ ∃ o c, s33 = .slice (some ⟨w1.heap.size, o, none⟩) ln c ∧ ∀ i, i < ln → w7.cell? ⟨w1.heap.size, o + i, none⟩ = some (.chan (some (w.heap.size + 1 + (i + outOf turn)))))
          case first =>
            as_aux_lemma =>
              have hO := (show Hid (Blk w7 w1.heap.size (chs w.heap.size n n) 25) from hO7)
              clear hO7
              cases turn with
              | false =>
                go_wp2
                go_meet
                refine ⟨rfl, by rw [HHD.out]; simp [heldOf], 0, n, by rw [HLN.out]; rfl, fun i hi => ?_⟩
                have : i < n := by have := HLN.out; simp [outOf] at this; omega
                rw [hO.out.cell, Nat.zero_add, chs_get _ _ _ this]
                rfl
              | true =>
                by_cases hn0 : n = 0
                · subst hn0
                  go_wp2
                  go_meet
                  refine ⟨rfl, by rw [HHD.out]; simp [heldOf], 0, 0, by rw [HLN.out]; rfl, fun i hi => ?_⟩
                  have := HLN.out
                  simp [outOf] at this
                  omega
                · have a0 : ¬ ((n : Int) = 0) := by omega
                  have a1 : (1 : Int) ≤ (n : Int) := by omega
                  by_cases hn1 : n = 1
                  · subst hn1
                    go_wp2
                    go_meet
                    refine ⟨rfl, by rw [HHD.out]; simp [heldOf], 0, _, by rw [HLN.out]; rfl, fun i hi => ?_⟩
                    have := HLN.out
                    simp [outOf] at this
                    omega
                  · go_wp2
                    go_meet
                    refine ⟨rfl, by rw [HHD.out]; simp [heldOf, hn0], 1, _, by rw [HLN.out]; rfl, fun i hi => ?_⟩
                    have : i < n - 1 := by have := HLN.out; simp [outOf] at this; omega
                    rw [hO.out.cell, chs_get _ _ _ (by omega)]
                    simp [outOf]
                    omega
          case rest =>
            obtain ⟨rfl, rfl, o, c, rfl, hW⟩ := hcut
            obtain ⟨cs, hcs, hline⟩ := hL7
            have f88 := hF7.cells.2.1
            have f89 := hF7.cells.2.2.1
            have f90 := hF7.cells.2.2.2
            have d3 : w7.cell? ⟨w5.heap.size, 3, none⟩ = some (.pointer (some ⟨w2.heap.size, 0, none⟩)) := by rw [hD7.cell]; rfl
            have d5 : w7.cell? ⟨w5.heap.size, 5, none⟩ = some (.int .i64 size) := by rw [hD7.cell]; rfl
            have d6 : w7.cell? ⟨w5.heap.size, 6, none⟩ = some (.int .i64 next) := by rw [hD7.cell]; rfl
            have d7 : w7.cell? ⟨w5.heap.size, 7, none⟩ = some (.int .i64 hashed) := by rw [hD7.cell]; rfl
            have d8 : w7.cell? ⟨w5.heap.size, 8, none⟩ = some (.map none) := by rw [hD7.cell]; rfl
            have d9 : w7.cell? ⟨w5.heap.size, 9, none⟩ = some (.int .i64 0) := by rw [hD7.cell]; rfl
            have d10 : w7.cell? ⟨w5.heap.size, 10, none⟩ = some (.pointer none) := by rw [hD7.cell]; rfl
            have d11 : w7.cell? ⟨w5.heap.size, 11, none⟩ = some (.slice none 0 0) := by rw [hD7.cell]; rfl
            have d12 : w7.cell? ⟨w5.heap.size, 12, none⟩ = some (.slice none 0 0) := by rw [hD7.cell]; rfl
            have d13 : w7.cell? ⟨w5.heap.size, 13, none⟩ = some (.bool false) := by rw [hD7.cell]; rfl
            have d14 : w7.cell? ⟨w5.heap.size, 14, none⟩ = some (.bool false) := by rw [hD7.cell]; rfl
            have d19 : w7.cell? ⟨w5.heap.size, 19, none⟩ = some (.pointer none) := by rw [hD7.cell]; rfl
            have d27 : w7.cell? ⟨w5.heap.size, 27, none⟩ = some .nilIface := by rw [hD7.cell]; rfl
            have hlc : ∀ i, i < ln → w7.cell? ⟨w.heap.size, i, none⟩ = some (.chan (some (w.heap.size + 1 + (i + outOf turn)))) := fun i hi => by rw [hcs.cell]; exact hline i hi
            have HLC := (show Hid _ from hlc)
            have HWC := (show Hid _ from hW)
            have HBEL := (show Hid _ from hBel7)
            have n43 := neq43
            have n25 := neq25
            have n26 := neq26
            clear hcs hline hlc hW hBel7 hO7 hF7 hD7 cs
            go_wp2_with fail
            go_loopw [34] (fun i wr => ∃ k : Nat, k ≤ ln ∧ i = .int .i64 k ∧ ∃ q, wr = w7.drewN q) (fun i _ => ln - (intOf i).toNat)
            case atStart => exact ⟨0, Nat.zero_le _, rfl, 0, rfl⟩
            case round =>
              obtain ⟨k, hk, rfl, q, rfl⟩ := hrel
              by_cases hlt : k < ln
              · have e1 := HLC.out k hlt
                have e2 := HWC.out k hlt
                have hk0 : (0 : Int) ≤ (k : Int) := by omega
                have hkm : (k : Int) < (ln : Int) := by omega
                have hln : ln ≤ n := by have := HLN.out; omega
                go_wp2_with fail
                go_quiet (fail)
                go_wp2
                go_roundw
                case rel => exact ⟨k + 1, by omega, by go_num, _, rfl⟩
                case measure => simp [intOf]; omega
              · have hkm : k = ln := by omega
                subst hkm
                go_wp2
                go_ret
                exact ⟨rfl, HBEL.out.trans ⟨rfl, rfl, rfl, Nat.le_refl _, fun _ _ => rfl⟩⟩
end Go.Proofs.Ybulkefvs
