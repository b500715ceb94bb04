/-
  (*entryCache).keep where everything is forgotten first.
-/
import Derived.Test.YbulkefuqMap
namespace Go.Proofs.Ybulkefuq
open Go.RowKit Go.Maps
set_option linter.unusedSimpArgs false

/-- a dictionary's block: its table's pointer p -/
def dCells (p : Option Addr) : Array Value := #[.pointer p, .nilFunc]

theorem Fr.of_grown {w w' : World} {row : Option Nat} (h : w.grownBy w' row) (hs : ∀ r x, row = some r → (x.1 = 54 ∨ x.1 = 70) → w.shape? r ≠ some x) : Fr (fun b => row = some b) w w' := by
  refine ⟨h.os, h.tape, h.output, h.size, fun b hb hn => h.block b hb (fun e => hn e.symm), fun b x ht hx => ?_⟩
  have hb := lt_of_shape hx
  have hne : some b ≠ row := fun e => hs b x e.symm ht hx
  unfold World.shape? at *
  rw [h.block b hb hne]
  exact hx

theorem grownBy_setCell (w : World) (a : Addr) (v : Value) : w.grownBy (w.setCell a v) (some a.block) :=
  ⟨rfl, rfl, rfl, by simp [World.setCell], fun k _ hne => Below.heap_setCell _ _ _ _ (fun e => hne (by rw [e]))⟩

theorem ranges_shape {w : World} {bm r n : Nat} {D : DataW Unit} {left : Lit → Bool} {cnt : Nat} (h : w.ranges Yba.prog 38 ptrElem bm r n D left cnt) : w.shape? r = none ∧ w.shape? bm = none := by
  obtain ⟨es, clock, since, seen, c0, hb, _, _, _, hr, _⟩ := h
  simp [World.shape?, hb, hr]

theorem Blk.ne_shape {w : World} {b r : Nat} {cs : Array Value} {T : TypeId} (h : Blk w b cs T) (hr : w.shape? r = none) : r ≠ b := fun e => by
  subst e
  rw [h.shape] at hr
  cases hr

/-- THE STEP over the cache's map: a dictionary comes. -/
theorem wpList_next_dicts (w : World) {ops : Array Oper} {rest : List Oper} {o : Oper} {a : Act} {Q : Exit → Act → World → Prop} (hg : o.guard = none) (it : Operand) (hop : o.op = Op.next it false)
    (bm r n0 : Nat) (D : DataW Unit) (M : Nat → Option Nat) (hM : MapIs D M) (left : Lit → Bool) (cnt : Nat) (hit : a.eval it = .pointer (some ⟨r, 0, none⟩)) (h : w.ranges Yba.prog 38 ptrElem bm r n0 D left cnt)
    (hDone : (∀ kl, left kl = false) → wpList Yba.prog ops Q rest (a.put o.dst (.tuple #[.bool false])) w)
    (hMore : ∀ (k b : Nat) (w' : World) (cnt' : Nat), M k = some b → w'.ranges Yba.prog 38 ptrElem bm r n0 D (fun z => left z && !z.sameKey (.int .u64 k)) cnt' → cnt' < cnt →
      w.grownBy w' (some r) → w'.heap.size = w.heap.size → (Instr.entry (.pointer (some ⟨r, 0, none⟩))).run Yba.prog w' = .ok (.tuple #[.int .u64 k, .pointer (some ⟨b, 0, none⟩)]) w' →
      wpList Yba.prog ops Q rest (a.put o.dst (.tuple #[.bool true, .int .u64 k, .pointer (some ⟨b, 0, none⟩)])) w') :
    wpList Yba.prog ops Q (o :: rest) a w := by
  refine wpList_next_ranges w hg it hop 38 law38 ptrElem (Value.int .u64) ptrVal (fun key kl hkey => by obtain ⟨x, rfl, _⟩ := Maps.keyOf_int_inv Yba.underlying38 hkey; exact ⟨x, rfl⟩) ptrElem_inv bm r n0 D left cnt hit h (fun _ => hDone) ?_
  intro x c kl y w' cnt' hkey hlk hv hat hrg hlt hgr hsz hen
  obtain ⟨x', ex, rfl, hwx⟩ := Maps.keyOf_int_inv Yba.underlying38 hkey
  cases ex
  have h0 : 0 ≤ x := by
    simp [Lit.wf, IntKind.min, IntKind.max, IntKind.signed, IntKind.bits] at hwx
    omega
  obtain ⟨k, rfl⟩ := Int.eq_ofNat_of_zero_le h0
  rw [ptrElem_mk] at hv
  have hy : ptrDat c = y.1 := by
    have := Option.some.inj hv
    rw [← this]
  obtain ⟨hMk, hcn⟩ := hM.of_at (c := c) (fun zd => by rw [hat zd, hy])
  cases c with
  | none => exact absurd rfl hcn
  | some b => exact hMore k b w' cnt' hMk hrg hlt hgr hsz hen

set_option maxHeartbeats 1000000 in
set_option maxRecDepth 100000 in
theorem ec_keep_clear (be bd bm rb m cr n0 : Nat) (D : DataW Unit) (M : Nat → Option Nat) (g : Nat → Nat) (S0 : Nat → Prop) (L1 : Option Nat) (f1 : Nat → Option Addr) (bytes size : Int) (w : World)
    (hec : Blk w be (ecCells 0 bm bytes) 66) (hm : m ≤ 4096) (hg : ∀ j, j < m → g j < 18446744073709551616) (hG : ∀ j, j < m → w.cell? ⟨rb, j * 4, none⟩ = some (.int .u64 (g j))) (hsh : w.shape? rb = some (70, m * 4))
    (hown : w.ownsMap Yba.prog 38 ptrElem bm n0 D) (hM : MapIs D M) (hMb : ∀ k b, M k = some b → ∃ p, Blk w b (dCells p) 34)
    (hSe : ¬ S0 be) (hSr : ¬ S0 rb)
    (hD : ∀ w1, Fr (fun b => b = be ∨ (∃ k, M k = some b) ∨ w.heap.size ≤ b) w w1 → (∀ k b, M k = some b → Blk w1 b (dCells none) 34) → Dict w1 bd S0 L1 f1)
    (hclr : 4194304 < wrap64 (bytes + size)) (hsz : wrap64 size = size) :
    Calls Yba.prog 8 #[.pointer (some ⟨be, 0, none⟩), .pointer (some ⟨bd, 0, none⟩), .slice (some ⟨rb, 0, none⟩) m cr, .int .i64 size] w fun e w' => e = .returned (.tuple #[]) ∧
      Blk w' be (ecCells 0 bm size) 66 ∧ Dict w' bd (fun b => S0 b ∨ w.heap.size ≤ b) (keepsL g L1 m) (keepsF rb g f1 m) ∧ (∀ k b, M k = some b → ¬ S0 b → Blk w' b (dCells none) 34) ∧
      Fr (fun b => b = be ∨ S0 b ∨ (∃ k, M k = some b) ∨ w.heap.size ≤ b) w w' := by
  have h1 : w.cell? ⟨be, 0, none⟩ = some (.int .i32 0) := by rw [hec.cell]; rfl
  have hber : be ≠ rb := fun e => by subst e; have := hec.shape; rw [hsh] at this; simp at this
  have hbel := hec.lt
  have hrbl := lt_of_shape hsh
  have hMe : ∀ k b, M k = some b → b ≠ be ∧ b ≠ rb := fun k b hk => by
    obtain ⟨p, hp⟩ := hMb k b hk
    refine ⟨hp.ne hec (by decide), fun e => ?_⟩
    subst e
    have := hp.shape
    rw [hsh] at this
    simp at this
  have hbm := hown.lt
  have hdst : decide (4194304 < wrap64 (bytes + size)) = true := by simpa using hclr
  go_enter_defers Yba.func8, Yba.ntmps8
  go_wp2_with fail
  refine (Go.MuLone.lock_free muLib ⟨be, 0, none⟩ _ h1 (hec.frozen _)).mono ?_
  rintro e w1 ⟨rfl, hw1⟩
  have E1 : Blk w1 be (ecCells 1 bm bytes) 66 := by rw [hw1]; exact hec.set_same 0 _
  have F1 : Fr (fun b => b = be) w w1 := by rw [hw1]; exact (Fr.refl (fun b => b = be) w).setCell (p := ⟨be, 0, none⟩) rfl _
  have own1 : w1.ownsMap Yba.prog 38 ptrElem bm n0 D := by
    rw [hw1]
    exact hown.kept (grownBy_setCell _ _ _) (fun e => by
      have hb : bm = be := Option.some.inj e
      obtain ⟨es, clock, hbb, _⟩ := hown
      unfold Blk at hec
      rw [hb, hec] at hbb
      cases hbb)
  have M1 : ∀ k b, M k = some b → ∃ p, Blk w1 b (dCells p) 34 := fun k b hk => by
    obtain ⟨p, hp⟩ := hMb k b hk
    exact ⟨p, F1.blk hp (hMe k b hk).1⟩
  have hw1s : w1.heap.size = w.heap.size := by rw [hw1]; simp [World.setCell]
  clear hw1 h1
  have c2 : w1.cell? ⟨be, 2, none⟩ = some (.map (some bm)) := by rw [E1.cell]; rfl
  have c3 : w1.cell? ⟨be, 3, none⟩ = some (.int .i64 bytes) := by rw [E1.cell]; rfl
  go_wp2_with (first | (at_range; refine wpList_range_own _ rfl _ 58 rfl 38 24 law38 Yba.underlying58 ptrElem bm n0 D rfl own1 ?_; intro w2 hrg0 hg0 hs0))
  go_frame
  have hr0 : w.heap.size ≤ w1.heap.size := F1.size
  have W2 : Fr (fun b => w1.heap.size ≤ b) w1 w2 := (Fr.of_grown hg0 (fun r x e => by cases e)).mono (fun b e => by cases e)
  have HS : Hid (w1.heap.size = w.heap.size) := hw1s
  have HS2 : Hid (w2.heap.size = w1.heap.size + 1) := hs0
  clear hw1s hs0
  go_loopw [9] (fun _ wr => ∃ left cnt, wr.ranges Yba.prog 38 ptrElem bm w1.heap.size n0 D left cnt ∧ (∀ k b, M k = some b → left (.int .u64 k) = false → Blk wr b (dCells none) 34) ∧ (∀ k b, M k = some b → ∃ p, Blk wr b (dCells p) 34) ∧ Fr (fun b => (∃ k, M k = some b) ∨ w1.heap.size ≤ b) w1 wr) (fun _ wr => wr.rangeLeft bm w1.heap.size)
  case atStart =>
    refine ⟨_, _, hrg0, fun k b hk hl => ?_, fun k b hk => ?_, W2.mono fun b hb => Or.inr hb⟩
    · rw [hM.has hk] at hl
      cases hl
    · obtain ⟨p, hp⟩ := M1 k b hk
      exact ⟨p, W2.blk hp (by have := hp.lt; omega)⟩
  case round =>
    obtain ⟨left, cnt, hrg, hnil, hany, hfr⟩ := hrel
    go_wp2_with (first | (at_next; refine wpList_next_dicts _ rfl _ rfl bm w1.heap.size n0 D M hM left cnt rfl hrg ?_ ?_))
    · intro hl0
      have hbe1 : be < w1.heap.size := by omega
      have hSM : ¬ ((∃ k, M k = some be) ∨ w1.heap.size ≤ be) := by
        rintro (⟨k, hk⟩ | hk)
        · exact (hMe k be hk).1 rfl
        · omega
      have Er : Blk wr be (ecCells 1 bm bytes) 66 := hfr.blk E1 hSM
      have cr3 : wr.cell? ⟨be, 3, none⟩ = some (.int .i64 bytes) := by rw [Er.cell]; rfl
      have zr3 : wr.frozen? ⟨be, 3, none⟩ = false := Er.frozen _
      obtain ⟨W4, hW4⟩ : ∃ W4, W4 = wr.setCell ⟨be, 3, none⟩ (.int .i64 0) := ⟨_, rfl⟩
      have E1' : Blk W4 be (ecCells 1 bm 0) 66 := by rw [hW4]; exact Er.set_same 3 _
      have F4 : Fr (fun b => b = be ∨ (∃ k, M k = some b) ∨ w.heap.size ≤ b) w W4 := by
        rw [hW4]
        exact ((F1.mono fun b hb => Or.inl hb).trans (hfr.mono fun b hb => by rcases hb with hb | hb; exact Or.inr (Or.inl hb); exact Or.inr (Or.inr (Nat.le_trans hr0 hb)))).setCell (p := ⟨be, 3, none⟩) (Or.inl rfl) _
      have N4 : ∀ k b, M k = some b → Blk W4 b (dCells none) 34 := fun k b hk => by rw [hW4]; exact (hnil k b hk (hl0 _)).set_other (hMe k b hk).1 _ _
      obtain ⟨S, hSd⟩ : ∃ S : Nat → Prop, S = fun b => S0 b ∨ w.heap.size ≤ b := ⟨_, rfl⟩
      have D1 : Dict W4 bd S L1 f1 := by rw [hSd]; exact (hD W4 F4 N4).mono fun b hb => Or.inl hb
      have hnr : ¬ (rb = be ∨ (∃ k, M k = some rb) ∨ w.heap.size ≤ rb) := by
        rintro (e | ⟨k, hk⟩ | hk)
        · exact hber e.symm
        · exact (hMe k rb hk).2 rfl
        · omega
      have G1 : ∀ j, j < m → W4.cell? ⟨rb, j * 4, none⟩ = some (.int .u64 (g j)) := fun j hj => by rw [World.cell?_of_block (w := w) (F4.keep rb hrbl hnr)]; exact hG j hj
      have S1 : W4.shape? rb = some (70, m * 4) := F4.shape _ _ (Or.inr rfl) hsh
      have O1 : ∀ b, W4.heap.size ≤ b → S b := fun b hb => by rw [hSd]; exact Or.inr (Nat.le_trans F4.size hb)
      have hSe : ¬ S be := by rw [hSd]; rintro (h | h); exact hSe h; omega
      have hSr : ¬ S rb := by rw [hSd]; rintro (h | h); exact hSr h; omega
      have HSd : Hid (S = fun b => S0 b ∨ w.heap.size ≤ b) := hSd
      clear hSd
      go_wp2_with fail
      rw [← hW4]
      clear hW4 E1 cr3 zr3 Er hrg0 hrg
      have E1 := E1'
      go_loopw [43] (fun i wr => ∃ k : Nat, k ≤ m ∧ i = .int .i64 k ∧ Dict wr bd S (keepsL g (L1) k) (keepsF rb g (f1) k) ∧ Fr S W4 wr) (fun i _ => m - (intOf i).toNat)
      case atStart => exact ⟨0, Nat.zero_le _, rfl, D1, Fr.refl _ _⟩
      case round =>
        obtain ⟨k, hk, rfl, hDk, hFk⟩ := hrel
        by_cases hlt : k < m
        · have ck : wr.cell? ⟨rb, k * 4, none⟩ = some (.int .u64 (g k)) := by rw [World.cell?_of_block (w := W4) (hFk.keep rb (by have := S1; exact lt_of_shape this) hSr)]; exact G1 k hlt
          have sk : wr.shape? rb = some (70, m * 4) := hFk.shape _ _ (Or.inr rfl) S1
          have hgk := hg k hlt
          have hk0 : (0 : Int) ≤ (k : Int) := by omega
          have hkm : (k : Int) < (m : Int) := by omega
          have ek : EntOk wr.drew ⟨rb, k * 4 + 1, none⟩ := entOk_read sk k hlt
          have dk : Dict wr.drew bd S (keepsL g (L1) k) (keepsF rb g (f1) k) := hDk.fr (Fr.refl (fun _ => False) wr).drew (fun _ _ h => h)
          have ok : ∀ b, wr.drew.heap.size ≤ b → S b := fun b hb => O1 b (Nat.le_trans hFk.size hb)
          go_wp2_with fail
          go_region_held3 (fun w' => True ∧ w'.cell? ⟨rb, k * 4, none⟩ = some (.int .u64 (g k))) (first | (refine ⟨trivial, ?_⟩; rw [World.cell?_of_block (w := wr) (hfd.keep rb (lt_of_shape sk) hSr)]; exact ck) | go_keep)
            (first | (go_at_call 17; refine (keep_any dk ok (g k) hgk _ ek).mono ?_; rintro e w2 ⟨rfl, hD2, hfd⟩))
          go_wp2
          go_roundw
          case rel =>
            exact ⟨k + 1, by omega, by go_num, hD2, hFk.trans ((Fr.refl S wr).drew.trans hfd)⟩
          case measure => simp [intOf]; omega
        · have hkm : k = m := by omega
          subst hkm
          have Ek : Blk wr be (ecCells 1 bm 0) 66 := hFk.blk E1 hSe
          have c3' : wr.cell? ⟨be, 3, none⟩ = some (.int .i64 0) := by rw [Ek.cell]; rfl
          have z3' : wr.frozen? ⟨be, 3, none⟩ = false := Ek.frozen _
          go_wp2_with fail
          refine leaves_cons (f := 10) (args := #[.pointer (some ⟨be, 0, none⟩)]) (by simp) (by simp [go_sem]) ?_
          have Ek2 := Ek.set_same 3 (.int .i64 size)
          refine (Go.MuLone.unlock_deferred muLib ⟨be, 0, none⟩ .returning _ (by rw [Ek2.cell]; rfl) (Ek2.frozen _)).mono ?_
          rintro e u' w'' ⟨rfl, rfl, rfl⟩
          have FE := ((Fr.refl (fun b => b = be) wr).setCell (p := ⟨be, 3, none⟩) rfl (.int .i64 size)).setCell (p := ⟨be, 0, none⟩) rfl (.int .i32 0)
          refine ⟨_, results_none rfl _ _ _, rfl, Ek2.set_same 0 _, ?_, ?_, ?_⟩
          · rw [← HSd.out]
            exact hDk.fr FE (fun b hb e => hSe (e ▸ hb))
          · intro k' b' hk' hs'
            have hb' : b' < w.heap.size := by obtain ⟨q, hq⟩ := hMb k' b' hk'; exact hq.lt
            refine FE.blk (hFk.blk (N4 k' b' hk') ?_) (hMe k' b' hk').1
            rw [HSd.out]
            rintro (h | h)
            · exact hs' h
            · omega
          · refine ((F4.mono fun b hb => ?_).trans (hFk.mono fun b hb => ?_)).trans (FE.mono fun b hb => Or.inl hb)
            · rcases hb with hb | hb | hb
              · exact Or.inl hb
              · exact Or.inr (Or.inr (Or.inl hb))
              · exact Or.inr (Or.inr (Or.inr hb))
            · rw [HSd.out] at hb
              rcases hb with hb | hb
              · exact Or.inr (Or.inl hb)
              · exact Or.inr (Or.inr (Or.inr hb))
    · intro k b w3 cnt1 hMk hrg1 hlt hg1 hs1 hen
      have HS3 : Hid (w3.heap.size = wr.heap.size) := hs1
      clear hs1
      obtain ⟨sh1, sh2⟩ := ranges_shape hrg
      have W3 : Fr (fun b => w1.heap.size ≤ b) wr w3 := (Fr.of_grown hg1 (fun r x e _ hx => by cases e; rw [sh1] at hx; cases hx)).mono (fun b e => by cases e; exact Nat.le_refl _)
      obtain ⟨p, hp⟩ := hany k b hMk
      have hb3 : b < w1.heap.size := by obtain ⟨q, hq⟩ := M1 k b hMk; exact hq.lt
      have B3 : Blk w3 b (dCells p) 34 := W3.blk hp (by omega)
      obtain ⟨sh3, sh4⟩ := ranges_shape hrg1
      go_wp2_with fail
      refine (store7 _ none (.pointer p) _ (by rw [B3.cell]; rfl) (B3.frozen _) (cv_nil _ _ _ (by simp))).mono ?_
      rintro e w4 ⟨rfl, hw4⟩
      have R4 : w4.ranges Yba.prog 38 ptrElem bm w1.heap.size n0 D (fun z => left z && !z.sameKey (.int .u64 k)) cnt1 := by
        rw [hw4]
        exact hrg1.kept (grownBy_setCell _ _ _) (fun e => B3.ne_shape sh4 (Option.some.inj e)) (fun e => B3.ne_shape sh3 (Option.some.inj e))
      have F4 : Fr (fun b => (∃ k, M k = some b) ∨ w1.heap.size ≤ b) w3 w4 := by
        rw [hw4]
        exact (Fr.refl (fun b => (∃ k, M k = some b) ∨ w1.heap.size ≤ b) w3).setCell (p := ⟨b, 0, none⟩) (Or.inl ⟨k, hMk⟩) _
      have N4 : ∀ k' b', M k' = some b' → (left (.int .u64 k') && !(Lit.int .u64 k').sameKey (.int .u64 k)) = false → Blk w4 b' (dCells none) 34 := fun k' b' hk' hl' => by
        rw [hw4]
        by_cases eb : b' = b
        · subst eb
          exact B3.set_same 0 _
        · refine Blk.set_other (W3.blk (hnil k' b' hk' ?_) (by obtain ⟨q, hq⟩ := M1 k' b' hk'; have := hq.lt; omega)) eb _ _
          by_cases ek : k' = k
          · subst ek
            rw [hMk] at hk'
            exact absurd (Option.some.inj hk').symm eb
          · rw [sameKey_ne (by simp; omega)] at hl'
            simpa using hl'
      have A4 : ∀ k' b', M k' = some b' → ∃ p, Blk w4 b' (dCells p) 34 := fun k' b' hk' => by
        rw [hw4]
        by_cases eb : b' = b
        · subst eb
          exact ⟨_, B3.set_same 0 _⟩
        · obtain ⟨q, hq⟩ := hany k' b' hk'
          exact ⟨q, (W3.blk hq (by obtain ⟨q, hq⟩ := M1 k' b' hk'; have := hq.lt; omega)).set_other eb _ _⟩
      clear hw4
      go_wp2
      go_roundw
      case rel =>
        exact ⟨_, _, R4, N4, A4, (hfr.trans (W3.mono fun b hb => Or.inr hb)).trans F4⟩
      case measure => rw [R4.left_eq, hrg.left_eq]; omega
end Go.Proofs.Ybulkefuq
