/-
  What stands behind the call of keep. Plain.
-/
import Derived.Test.YbulkefuqRead
namespace Go.Proofs.Ybulkefuq
open Go.RowKit Go.Maps

structure KeepDone (w wk : World) (bd be bm bo bE rb m n : Nat) (wb : Int) (cl : Bool) (Lk : Option Nat) (fk : Nat → Option Addr) (ob : Nat → Nat) (oe : Nat → Addr) (D : DataW Unit) (vN vE : Value) (m2 : Nat) (pn : Nat → Nat) (pe : Nat → Option Addr) (g tb : Nat → Nat) : Prop where
  ec : Blk wk be (ecCells 0 bm wb) 66
  dict : ∃ S, Dict wk bd S Lk fk ∧ ¬ S be
  map : wk.ownsMap Yba.prog 38 ptrElem bm (m + 1) D
  o : Blk wk bo (ptrs m fun i => if i < m then some ⟨ob i, 0, none⟩ else none) 24
  oE : Blk wk bE (ptrs m fun i => if i < m then some (oe i) else none) 44
  othC : cl = true → ∀ i, i < m → Blk wk (ob i) (dCells none) 34
  othS : cl = false → ∀ i, i < m → ∃ S, Dict wk (ob i) S (some 1) (fun n => if n = 0 then some (oe i) else none) ∧ ¬ S be
  rN : wk.ownsRow w.heap.size 38 1 vN m2 (rowN pn m2)
  rE : wk.ownsRow w.heap.size 44 1 vE m2 (rowE pe m2)
  rd : ∃ cs, Blk wk rb cs 70 ∧ cs.size = n * 4 ∧ ∀ i, i < n → cs[i * 4]? = some (.int .u64 (g i)) ∧ cs[i * 4 + 1 + 1]? = some (.slice (some ⟨tb i, 0, none⟩) 2 2)
  txt : ∀ i, i < n → Blk wk (tb i) #[.int .u8 ((i : Int) % 256), .int .u8 1] 5
  bel : w.heap.size ≤ be
  fr : Fr (fun b => w.heap.size ≤ b) w wk

section
variable {w wk : World} {bd be bm bo bE rb m n : Nat} {wb : Int} {cl : Bool} {Lk : Option Nat} {fk : Nat → Option Addr} {ob : Nat → Nat} {oe : Nat → Addr} {D : DataW Unit} {vN vE : Value} {m2 : Nat} {pn : Nat → Nat} {pe : Nat → Option Addr} {g tb : Nat → Nat}

/-- the cache's block written: its cells are given anew -/
theorem KeepDone.ec' (h : KeepDone w wk bd be bm bo bE rb m n wb cl Lk fk ob oe D vN vE m2 pn pe g tb) {w' : World} (k : Fr (fun b => b = be) wk w') (hec : Blk w' be (ecCells 0 bm wb) 66) : KeepDone w w' bd be bm bo bE rb m n wb cl Lk fk ob oe D vN vE m2 pn pe g tb := by
  obtain ⟨S, hS, hSe⟩ := h.dict
  obtain ⟨cs, hb, hs, hc⟩ := h.rd
  refine ⟨hec, ⟨S, hS.fr k (fun b hb e => hSe (e ▸ hb)), hSe⟩, own_map_fr h.map k (fun e => own_map_ne h.map h.ec e), k.blk h.o (h.o.ne h.ec (by decide)), k.blk h.oE (h.oE.ne h.ec (by decide)), fun hc i hi => ?_, fun hc i hi => ?_,
    own_fr h.rN k (fun g hg e => by subst e; exact own_ne h.rN h.ec (by decide) hg), own_fr h.rE k (fun g hg e => by subst e; exact own_ne h.rE h.ec (by decide) hg), ⟨cs, k.blk hb (hb.ne h.ec (by decide)), hs, hc⟩, fun i hi => k.blk (h.txt i hi) ((h.txt i hi).ne h.ec (by decide)), h.bel, h.fr.trans (k.mono fun b e => by subst e; exact h.bel)⟩
  · exact k.blk (h.othC hc i hi) ((h.othC hc i hi).ne h.ec (by decide))
  · obtain ⟨S, h1, h2⟩ := h.othS hc i hi
    exact ⟨S, h1.fr k (fun b hb e => h2 (e ▸ hb)), h2⟩

theorem KeepDone.lock (h : KeepDone w wk bd be bm bo bE rb m n wb cl Lk fk ob oe D vN vE m2 pn pe g tb) : KeepDone w ((wk.setCell ⟨be, 0, none⟩ (.int .i32 1)).setCell ⟨be, 0, none⟩ (.int .i32 0)) bd be bm bo bE rb m n wb cl Lk fk ob oe D vN vE m2 pn pe g tb :=
  h.ec' (((Fr.refl (fun b => b = be) wk).setCell (p := ⟨be, 0, none⟩) rfl _).setCell (p := ⟨be, 0, none⟩) rfl _) ((h.ec.set_same 0 _).set_same 0 _)

theorem KeepDone.drew (h : KeepDone w wk bd be bm bo bE rb m n wb cl Lk fk ob oe D vN vE m2 pn pe g tb) : KeepDone w wk.drew bd be bm bo bE rb m n wb cl Lk fk ob oe D vN vE m2 pn pe g tb :=
  h.ec' (Fr.refl (fun b => b = be) wk).drew h.ec
end

theorem Dict.head {w : World} {bd : Nat} {S : Nat → Prop} {L : Option Nat} {f : Nat → Option Addr} (h : Dict w bd S L f) : ∃ p, Blk w bd (dCells p) 34 := by
  obtain ⟨_, _, h3⟩ := h
  cases L with
  | none => exact ⟨none, h3.1⟩
  | some l =>
    obtain ⟨bx, ba, tab, g, _⟩ := h3
    exact ⟨_, g.d⟩

/-- WHAT STANDS AHEAD OF THE CALL. -/
structure KeepPre (w wp wo wt : World) (B k m n : Nat) (bo bE : Nat) (b0 : Int) (a7 : Bool) (S0 : Nat → Prop) (L : Option Nat) (f : Nat → Option Addr) (ob : Nat → Nat) (oe : Nat → Addr) (vN vE : Value) (m2 : Nat) (pn : Nat → Nat) (pe : Nat → Option Addr) (g tb : Nat → Nat) : Prop where
  pd : PreDone w wp w.heap.size k vN vE S0 L f m2 pn pe
  oa : OthAt wp wo B wp.heap.size (wp.heap.size + 1) bo bE m b0 (if a7 then some w.heap.size else none) m ob oe
  bo : wp.heap.size + 1 < bo ∧ wp.heap.size + 1 < bE
  ra : ReadAt wo wt wo.heap.size n g n tb

section
variable {w wp wo wt : World} {B k m n bo bE : Nat} {b0 : Int} {a7 : Bool} {S0 : Nat → Prop} {L : Option Nat} {f : Nat → Option Addr} {ob : Nat → Nat} {oe : Nat → Addr} {vN vE : Value} {m2 : Nat} {pn : Nat → Nat} {pe : Nat → Option Addr} {g tb : Nat → Nat}

theorem KeepPre.s0 (h : KeepPre w wp wo wt B k m n bo bE b0 a7 S0 L f ob oe vN vE m2 pn pe g tb) : ∀ b, S0 b → w.heap.size ≤ b ∧ b < wp.heap.size := fun b hb => by
  obtain ⟨h1, cs, T, h2, _⟩ := h.pd.typ b hb
  exact ⟨h1, h2.lt⟩
theorem KeepPre.bd (h : KeepPre w wp wo wt B k m n bo bE b0 a7 S0 L f ob oe vN vE m2 pn pe g tb) : w.heap.size < wp.heap.size := (h.s0 _ h.pd.dict.1).2
theorem KeepPre.fot (h : KeepPre w wp wo wt B k m n bo bE b0 a7 S0 L f ob oe vN vE m2 pn pe g tb) : Fr (fun b => wp.heap.size ≤ b) wp wt := h.oa.fr.trans (h.ra.fr.mono fun _ hb => Nat.le_trans h.oa.fr.size hb)
theorem KeepPre.dt (h : KeepPre w wp wo wt B k m n bo bE b0 a7 S0 L f ob oe vN vE m2 pn pe g tb) : Dict wt w.heap.size S0 L f := h.pd.dict.fr h.fot (fun b hb => by have := (h.s0 b hb).2; omega)
theorem KeepPre.ect (h : KeepPre w wp wo wt B k m n bo bE b0 a7 S0 L f ob oe vN vE m2 pn pe g tb) : Blk wt (wp.heap.size + 1) (ecCells 0 wp.heap.size b0) 66 := h.ra.fr.blk h.oa.ec (by have := h.oa.ec.lt; omega)
theorem KeepPre.od (h : KeepPre w wp wo wt B k m n bo bE b0 a7 S0 L f ob oe vN vE m2 pn pe g tb) (i : Nat) (hi : i < m) : Dict wt (ob i) (fun b => B ≤ b ∧ b < wo.heap.size) (some 1) (fun n => if n = 0 then some (oe i) else none) := (h.oa.dict i hi).fr h.ra.fr (fun _ hb => by omega)
theorem KeepPre.obl (h : KeepPre w wp wo wt B k m n bo bE b0 a7 S0 L f ob oe vN vE m2 pn pe g tb) (i : Nat) (hi : i < m) : B ≤ ob i ∧ ob i < wo.heap.size := (h.oa.dict i hi).1
/-- the map's dictionaries -/
theorem KeepPre.inM (h : KeepPre w wp wo wt B k m n bo bE b0 a7 S0 L f ob oe vN vE m2 pn pe g tb) (j b : Nat) (hj : othM (if a7 then some w.heap.size else none) ob m j = some b) : (j = 0 ∧ a7 = true ∧ b = w.heap.size) ∨ (B ≤ b ∧ b < wo.heap.size ∧ ∃ i, i < m ∧ b = ob i) := by
  unfold othM at hj
  by_cases e : j = 0
  · rw [if_pos e] at hj
    cases a7 with
    | false => simp at hj
    | true => simp at hj; exact .inl ⟨e, rfl, hj.symm⟩
  · rw [if_neg e] at hj
    by_cases e' : j ≤ m
    · rw [if_pos e'] at hj
      cases hj
      have := h.obl (j - 1) (by omega)
      exact .inr ⟨this.1, this.2, j - 1, by omega, rfl⟩
    · rw [if_neg e'] at hj
      cases hj

/-- What no keep touches stands. -/
theorem KeepPre.post (h : KeepPre w wp wo wt B k m n bo bE b0 a7 S0 L f ob oe vN vE m2 pn pe g tb) {wk : World} {wb : Int} {cl : Bool} {Lk : Option Nat} {fk : Nat → Option Addr} {D : DataW Unit} {S : Nat → Prop}
    (hD : wo.ownsMap Yba.prog 38 ptrElem wp.heap.size (m + 1) D)
    (hfr : Fr S wt wk) (hS : ∀ b, S b → b = wp.heap.size + 1 ∨ S0 b ∨ (cl = true ∧ ∃ j, othM (if a7 then some w.heap.size else none) ob m j = some b) ∨ wt.heap.size ≤ b)
    (hec : Blk wk (wp.heap.size + 1) (ecCells 0 wp.heap.size wb) 66) (hd : ∃ S, Dict wk w.heap.size S Lk fk ∧ ¬ S (wp.heap.size + 1)) (hC : cl = true → ∀ i, i < m → Blk wk (ob i) (dCells none) 34) :
    KeepDone w wk w.heap.size (wp.heap.size + 1) wp.heap.size bo bE wo.heap.size m n wb cl Lk fk ob oe D vN vE m2 pn pe g tb := by
  have hbd := h.bd
  have hwo := h.oa.fr.size
  have hwt := h.ra.fr.size
  obtain ⟨l1, l2, l3, l4, l5⟩ := h.oa.le
  obtain ⟨g1, g2⟩ := h.bo
  have hrl : wo.heap.size < wt.heap.size := by obtain ⟨cs, hb, _⟩ := h.ra.blk; exact hb.lt
  -- whatever lies from the cache's map on and below the heap's end, is not the cache and no dictionary
  have hmid : ∀ b, wp.heap.size ≤ b → b ≠ wp.heap.size + 1 → b < wt.heap.size → (b < B ∨ wo.heap.size ≤ b) → ¬ S b := fun b h1 h2 h3 h4 hb => by
    rcases hS b hb with e | e | ⟨_, j, e⟩ | e
    · exact h2 e
    · have := (h.s0 b e).2; omega
    · rcases h.inM j b e with ⟨_, _, e⟩ | ⟨e1, e2, _⟩
      · omega
      · omega
    · omega
  have hrow : ∀ b cs T, Blk wp b cs T → w.heap.size ≤ b → (T = 38 ∨ T = 44) → ¬ S b := fun b cs T hb hl hT hs => by
    have hlt := hb.lt
    rcases hS b hs with e | e | ⟨_, j, e⟩ | e
    · omega
    · obtain ⟨_, cs', T', hb', hT'⟩ := h.pd.typ b e
      have := (hb.eq hb').2
      subst this
      rcases hT with rfl | rfl <;> simp at hT'
    · rcases h.inM j b e with ⟨_, _, e⟩ | ⟨e1, e2, _⟩
      · obtain ⟨_, cs', T', hb', hT'⟩ := h.pd.typ b (by rw [e]; exact h.pd.dict.1)
        have := (hb.eq hb').2
        subst this
        rcases hT with rfl | rfl <;> simp at hT'
      · omega
    · omega
  have rNt : wt.ownsRow w.heap.size 38 1 vN m2 (rowN pn m2) := own_fr h.pd.rN h.fot (fun r hr => by obtain ⟨_, cs, hb⟩ := own_blk h.pd.rN hr; have := hb.lt; omega)
  have rEt : wt.ownsRow w.heap.size 44 1 vE m2 (rowE pe m2) := own_fr h.pd.rE h.fot (fun r hr => by obtain ⟨_, cs, hb⟩ := own_blk h.pd.rE hr; have := hb.lt; omega)
  have o_t := h.ra.fr.blk h.oa.o (by omega)
  have oE_t := h.ra.fr.blk h.oa.oE (by omega)
  obtain ⟨cs, hb, hs, hc⟩ := h.ra.blk
  refine ⟨hec, hd, own_map_fr (own_map_fr hD h.ra.fr (by omega)) hfr (hmid _ (Nat.le_refl _) (by omega) (by omega) (by omega)), hfr.blk o_t (hmid _ (by omega) (by omega) (by omega) (by omega)), hfr.blk oE_t (hmid _ (by omega) (by omega) (by omega) (by omega)), hC, fun hcl i hi => ?_,
    own_fr rNt hfr (fun r hr => by obtain ⟨h1, cs, hb⟩ := own_blk h.pd.rN hr; exact hrow r cs 38 hb h1 (by simp)), own_fr rEt hfr (fun r hr => by obtain ⟨h1, cs, hb⟩ := own_blk h.pd.rE hr; exact hrow r cs 44 hb h1 (by simp)),
    ⟨cs, hfr.blk hb (hmid _ (by omega) (by omega) (by omega) (by omega)), hs, hc⟩, fun i hi => ?_, by omega, ?_⟩
  · refine ⟨_, (h.od i hi).fr hfr (fun b hb hs => ?_), by omega⟩
    rcases hS b hs with e | e | ⟨e, _⟩ | e
    · omega
    · have := (h.s0 b e).2; omega
    · rw [hcl] at e; cases e
    · omega
  · obtain ⟨t1, t2⟩ := h.ra.txt i hi
    have := t1.lt
    exact hfr.blk t1 (hmid _ (by omega) (by omega) (by omega) (by omega))
  · refine (h.pd.fr.trans (h.fot.mono fun b hb => by omega)).trans (hfr.mono fun b hb => ?_)
    rcases hS b hb with e | e | ⟨_, j, e⟩ | e
    · omega
    · exact (h.s0 b e).1
    · rcases h.inM j b e with ⟨_, _, e⟩ | ⟨e1, e2, _⟩
      · omega
      · omega
    · omega

/-- THE CALL OF keep, as the law makes it. -/
theorem ec_keep_law (h : KeepPre w wp wo wt B k m n bo bE b0 a7 S0 L f ob oe vN vE m2 pn pe g tb) (hn : n ≤ 4096) (hg : ∀ i, i < n → g i < 18446744073709551616) (size : Int) (hsz : wrap64 size = size) (cl : Bool) (hcl : decide (4194304 < wrap64 (b0 + size)) = cl) :
    Calls Yba.prog 8 #[.pointer (some ⟨wp.heap.size + 1, 0, none⟩), .pointer (some ⟨w.heap.size, 0, none⟩), .slice (some ⟨wo.heap.size, 0, none⟩) n n, .int .i64 size] wt fun e w' => e = .returned (.tuple #[]) ∧
      ∃ D, MapIs D (othM (if a7 then some w.heap.size else none) ob m) ∧ Maps.size D = m + (if a7 then 1 else 0) ∧
        KeepDone w w' w.heap.size (wp.heap.size + 1) wp.heap.size bo bE wo.heap.size m n (if cl then size else wrap64 (b0 + size)) cl (keepsL g (if cl && a7 then none else L) n) (keepsF wo.heap.size g (if cl && a7 then fun _ => none else f) n) ob oe D vN vE m2 pn pe g tb := by
  obtain ⟨D, hD1, hD2, hD3⟩ := h.oa.map
  have hD3' : Maps.size D = m + (if a7 then 1 else 0) := by rw [hD3]; cases a7 <;> simp
  have hbd := h.bd
  have hwo := h.oa.fr.size
  have hwt := h.ra.fr.size
  obtain ⟨l1, l2, l3, l4, l5⟩ := h.oa.le
  obtain ⟨cs, hb, hs, hc⟩ := h.ra.blk
  have hrl := hb.lt
  have hG : ∀ j, j < n → wt.cell? ⟨wo.heap.size, j * 4, none⟩ = some (.int .u64 (g j)) := fun j hj => by rw [hb.cell]; exact (hc j hj).1
  have hsh : wt.shape? wo.heap.size = some (70, n * 4) := by rw [hb.shape, hs]
  have n0e : ¬ S0 (wp.heap.size + 1) := fun e => by have := (h.s0 _ e).2; omega
  have n0r : ¬ S0 wo.heap.size := fun e => by have := (h.s0 _ e).2; omega
  cases cl with
  | false =>
    have hst : ¬ (4194304 < wrap64 (b0 + size)) := by simpa using hcl
    refine (ec_keep_stay (wp.heap.size + 1) w.heap.size wp.heap.size wo.heap.size n n g (fun b => S0 b ∨ wt.heap.size ≤ b) L f b0 size wt h.ect hn hg hG hsh (h.dt.mono fun b hb => Or.inl hb) (fun b hb => Or.inr hb) ?_ ?_ hst).mono ?_
    · rintro (e | e)
      · exact n0e e
      · omega
    · rintro (e | e)
      · exact n0r e
      · omega
    rintro e w' ⟨rfl, r1, r2, r3⟩
    refine ⟨rfl, D, hD2, hD3', h.post hD1 r3 (fun b hb => ?_) r1 ⟨_, r2, ?_⟩ (fun hc => by cases hc)⟩
    · rcases hb with e | e | e
      · exact .inl e
      · exact .inr (.inl e)
      · exact .inr (.inr (.inr e))
    · rintro (e | e)
      · exact n0e e
      · omega
  | true =>
    have hcl' : 4194304 < wrap64 (b0 + size) := by simpa using hcl
    refine (ec_keep_clear (wp.heap.size + 1) w.heap.size wp.heap.size wo.heap.size n n (m + 1) D (othM (if a7 then some w.heap.size else none) ob m) g S0 (if true && a7 then none else L) (if true && a7 then fun _ => none else f) b0 size wt h.ect hn hg hG hsh
      (own_map_fr hD1 h.ra.fr (by omega)) hD2 (fun j b hj => ?_) n0e n0r (fun w1 k1 k2 => ?_) hcl' hsz).mono ?_
    · rcases h.inM j b hj with ⟨_, _, rfl⟩ | ⟨_, _, i, hi, rfl⟩
      · exact h.dt.head
      · exact (h.od i hi).head
    · cases a7 with
      | true =>
        exact ⟨h.pd.dict.1, fun n a e => (by cases e), k2 0 w.heap.size rfl, fun _ => rfl⟩
      | false =>
        refine h.dt.fr k1 (fun b hb hs => ?_)
        have hb2 := h.s0 b hb
        rcases hs with e | ⟨j, e⟩ | e
        · omega
        · rcases h.inM j b e with ⟨_, e', _⟩ | ⟨e1, e2, _⟩
          · cases e'
          · omega
        · omega
    rintro e w' ⟨rfl, r1, r2, r3, r4⟩
    refine ⟨rfl, D, hD2, hD3', h.post hD1 r4 (fun b hb => ?_) r1 ⟨_, r2, ?_⟩ (fun _ i hi => ?_)⟩
    · rcases hb with e | e | e | e
      · exact .inl e
      · exact .inr (.inl e)
      · exact .inr (.inr (.inl ⟨rfl, e⟩))
      · exact .inr (.inr (.inr e))
    · rintro (e | e)
      · exact n0e e
      · omega
    · have := h.obl i hi
      refine r3 (i + 1) (ob i) ?_ (fun e => by have := (h.s0 _ e).2; omega)
      unfold othM
      rw [if_neg (by omega), if_pos (by omega)]
      rfl
end
end Go.Proofs.Ybulkefuq
