/-
  handOn, giveRoom, giveTurn, giveBack.
-/
import Derived.Test.YbulkefvsDelete
import Derived.Conc.EventLaws
namespace Go.Proofs.Ybulkefvs
open Go.RowKit

/-- A fetcher in memory: its lock's word, its room, its turn, its line. -/
def FetchAt (w : World) (b : Nat) (st taken : Int) (held : Bool) (line : Value) : Prop :=
  ∃ cs : Array Value, Blk w b cs 42 ∧ cs[86]? = some (.int .i32 st) ∧ cs[88]? = some (.int .i64 taken) ∧ cs[89]? = some (.bool held) ∧ cs[90]? = some line
theorem FetchAt.frozen {w : World} {b : Nat} {st taken : Int} {held : Bool} {line : Value} (h : FetchAt w b st taken held line) (o : Nat) : w.frozen? ⟨b, o, none⟩ = false := by
  obtain ⟨cs, hb, -⟩ := h
  exact hb.frozen o
theorem FetchAt.cells {w : World} {b : Nat} {st taken : Int} {held : Bool} {line : Value} (h : FetchAt w b st taken held line) :
    w.cell? ⟨b, 86, none⟩ = some (.int .i32 st) ∧ w.cell? ⟨b, 88, none⟩ = some (.int .i64 taken) ∧ w.cell? ⟨b, 89, none⟩ = some (.bool held) ∧ w.cell? ⟨b, 90, none⟩ = some line := by
  obtain ⟨cs, hb, h1, h2, h3, h4⟩ := h
  rw [hb.cell, hb.cell, hb.cell, hb.cell]
  exact ⟨h1, h2, h3, h4⟩
theorem lt_of_get {cs : Array Value} {i : Nat} {v : Value} (h : cs[i]? = some v) : i < cs.size := (Array.getElem?_eq_some_iff.1 h).1
theorem get_set_self {cs : Array Value} {i : Nat} {v : Value} (h : i < cs.size) : (cs.setIfInBounds i v)[i]? = some v := by
  rw [Array.getElem?_setIfInBounds_self]
  simp [h]
theorem FetchAt.set_st {w : World} {b : Nat} {st taken : Int} {held : Bool} {line : Value} (h : FetchAt w b st taken held line) (x : Int) : FetchAt (w.setCell ⟨b, 86, none⟩ (.int .i32 x)) b x taken held line := by
  obtain ⟨cs, hb, h1, h2, h3, h4⟩ := h
  have := lt_of_get h4
  exact ⟨_, hb.set_same 86 _, get_set_self (by omega), by simpa using h2, by simpa using h3, by simpa using h4⟩
theorem FetchAt.set_taken {w : World} {b : Nat} {st taken : Int} {held : Bool} {line : Value} (h : FetchAt w b st taken held line) (x : Int) : FetchAt (w.setCell ⟨b, 88, none⟩ (.int .i64 x)) b st x held line := by
  obtain ⟨cs, hb, h1, h2, h3, h4⟩ := h
  have := lt_of_get h4
  exact ⟨_, hb.set_same 88 _, by simpa using h1, get_set_self (by omega), by simpa using h3, by simpa using h4⟩
theorem FetchAt.set_held {w : World} {b : Nat} {st taken : Int} {held : Bool} {line : Value} (h : FetchAt w b st taken held line) (x : Bool) : FetchAt (w.setCell ⟨b, 89, none⟩ (.bool x)) b st taken x line := by
  obtain ⟨cs, hb, h1, h2, h3, h4⟩ := h
  have := lt_of_get h4
  exact ⟨_, hb.set_same 89 _, by simpa using h1, by simpa using h2, get_set_self (by omega), by simpa using h4⟩
theorem FetchAt.set_line {w : World} {b : Nat} {st taken : Int} {held : Bool} {line : Value} (h : FetchAt w b st taken held line) (x : Value) : FetchAt (w.setCell ⟨b, 90, none⟩ x) b st taken held x := by
  obtain ⟨cs, hb, h1, h2, h3, h4⟩ := h
  have := lt_of_get h4
  exact ⟨_, hb.set_same 90 _, by simpa using h1, by simpa using h2, by simpa using h3, get_set_self (by omega)⟩
theorem FetchAt.fr {S : Nat → Prop} {w w' : World} {b : Nat} {st taken : Int} {held : Bool} {line : Value} (h : FetchAt w b st taken held line) (f : Fr S w w') (hn : ¬ S b) : FetchAt w' b st taken held line := by
  obtain ⟨cs, hb, h1⟩ := h
  exact ⟨cs, f.blk hb hn, h1⟩

set_option maxHeartbeats 1000000 in
theorem giveRoom (b : Nat) (n taken : Int) (held : Bool) (line : Value) (w : World) (h : FetchAt w b 0 taken held line) :
    Calls Yba.prog 13 #[.pointer (some ⟨b, 0, none⟩), .int .i64 n] w fun e w' => e = .returned (.tuple #[]) ∧ FetchAt w' b 0 (wrap64 (taken - n)) held line ∧ Fr (fun x => x = b) w w' := by
  have h1 := h.cells.1
  go_enter_defers Yba.func13, Yba.ntmps13
  go_wp2_with fail
  refine (Go.MuLone.lock_free muLib ⟨b, 86, none⟩ _ h1 (h.frozen _)).mono ?_
  rintro e w1 ⟨rfl, hw1⟩
  have E1 : FetchAt w1 b 1 taken held line := by rw [hw1]; exact h.set_st 1
  have F1 : Fr (fun x => x = b) w w1 := by rw [hw1]; exact (Fr.refl (fun x => x = b) w).setCell (p := ⟨b, 86, none⟩) rfl _
  clear hw1 h1
  have c2 := E1.cells.2.1
  have z2 := E1.frozen 88
  go_wp2_with fail
  refine leaves_cons (f := 27) (args := #[.pointer (some ⟨b, 86, none⟩)]) (by simp) (by simp [go_sem]) ?_
  have E2 := E1.set_taken (wrap64 (taken - n))
  refine (Go.MuLone.unlock_deferred muLib ⟨b, 86, none⟩ .returning _ E2.cells.1 (E2.frozen _)).mono ?_
  rintro e u' w'' ⟨rfl, rfl, rfl⟩
  exact ⟨_, results_none rfl _ _ _, rfl, E2.set_st 0, (F1.setCell (p := ⟨b, 88, none⟩) rfl _).setCell (p := ⟨b, 86, none⟩) rfl _⟩

/-- The line: n channels, in the block bl; channel i lies in the block bl + 1 + i. -/
def chs (bl k n : Nat) : Array Value := Array.ofFn (n := n) fun i => if i.1 < k then Value.chan (some (bl + 1 + i.1)) else Value.chan none
theorem chs_size (bl k n : Nat) : (chs bl k n).size = n := by simp [chs]
theorem chs_get (bl n i : Nat) (h : i < n) : (chs bl n n)[i]? = some (.chan (some (bl + 1 + i))) := by simp [chs, h]
theorem chs_one (bl k n i : Nat) (u : Value) (h : (chs bl k n)[i]? = some u) : u.oneCell' = true := by
  obtain ⟨hi, e⟩ := Array.getElem?_eq_some_iff.1 h
  subst e
  simp only [chs, Array.getElem_ofFn]
  split <;> rfl

set_option maxHeartbeats 1000000 in
theorem handOn_none (b : Nat) (taken : Int) (held : Bool) (a : Option Addr) (c : Nat) (w : World) (h : FetchAt w b 1 taken held (.slice a 0 c)) :
    Calls Yba.prog 28 #[.pointer (some ⟨b, 0, none⟩)] w fun e w' => e = .returned (.tuple #[]) ∧ FetchAt w' b 1 taken false (.slice a 0 c) ∧ Fr (fun x => x = b) w w' := by
  have c3 := h.cells.2.2.1
  have c4 := h.cells.2.2.2
  have z3 := h.frozen 89
  go_enter Yba.func28, Yba.ntmps28
  go_wp2
  refine bodyPost_ret (results_none rfl _ _ _) rfl ?_
  exact ⟨rfl, h.set_held false, (Fr.refl (fun x => x = b) w).setCell (p := ⟨b, 89, none⟩) rfl _⟩

set_option maxHeartbeats 1000000 in
theorem handOn_some (b bl n : Nat) (taken : Int) (held : Bool) (w : World) (h : FetchAt w b 1 taken held (.slice (some ⟨bl, 0, none⟩) n n)) (h1 : 1 ≤ n) (hbig : n ≤ 65535)
    (hl : Blk w bl (chs bl n n) 25) (hc : w.heap[bl + 1]? = some (.chan 0 #[] false 0 0 false)) (hne : b ≠ bl) (hne1 : b ≠ bl + 1) :
    Calls Yba.prog 28 #[.pointer (some ⟨b, 0, none⟩)] w fun e w' => e = .returned (.tuple #[]) ∧ FetchAt w' b 1 taken held (.slice (some ⟨bl, 0, none⟩) (n - 1) n) ∧
      (∃ cs', Blk w' bl cs' 25 ∧ cs'.size = n ∧ ∀ i, i < n - 1 → cs'[i]? = (chs bl n n)[i + 1]?) ∧ Fr (fun x => x = b ∨ x = bl ∨ x = bl + 1) w w' := by
  have c4 := h.cells.2.2.2
  have l0 : w.cell? ⟨bl, 0, none⟩ = some (.chan (some (bl + 1))) := by rw [hl.cell, chs_get _ _ _ (by omega)]
  have a1 : (1 : Int) ≤ (n : Int) := by omega
  have a2 : (0 : Int) < (n : Int) := by omega
  have a0 : ¬ ((n : Int) = 0) := by omega
  obtain ⟨wc, hcl, hFc⟩ : ∃ wc, (∀ ats ty, (Builtin.close_ ats ty #[.chan (some (bl + 1))]).run Yba.prog w = .ok (.tuple #[]) wc) ∧ Fr (fun x => x = bl + 1) w wc :=
    ⟨_, fun ats ty => Go.run_close_open ats ty hc, rfl, rfl, rfl, by simp, fun k _ hk => by simp only; rw [Array.getElem?_setIfInBounds_ne (fun e => hk e.symm)]⟩
  have hF := h.fr hFc hne1
  have hB := hFc.blk hl (by omega)
  have c5 := hF.cells.2.2.2
  clear hc
  go_enter Yba.func28, Yba.ntmps28
  go_wp2_with fail
  refine (delete_first bl n _ _ hB (chs_size _ _ _) h1 hbig (chs_one _ _ _)).mono ?_
  rintro e w2 ⟨rfl, hcs, hF2⟩
  have hG := hF.fr hF2 hne
  have z4 := hG.frozen 90
  have c6 := hG.cells.2.2.2
  go_wp2
  go_end0
  refine ⟨rfl, hG.set_line _, ?_, ?_⟩
  · obtain ⟨cs', k1, k2, k3⟩ := hcs
    exact ⟨cs', k1.set_other (Ne.symm hne) _ _, k2, k3⟩
  · exact Fr.setCell (S := fun x => x = b ∨ x = bl ∨ x = bl + 1) ((hFc.mono (fun x hx => Or.inr (Or.inr hx))).trans (hF2.mono (fun x hx => Or.inr (Or.inl hx)))) (p := ⟨b, 90, none⟩) (Or.inl rfl) _

set_option maxHeartbeats 1000000 in
theorem giveTurn_none (b : Nat) (taken : Int) (held : Bool) (a : Option Addr) (c : Nat) (w : World) (h : FetchAt w b 0 taken held (.slice a 0 c)) :
    Calls Yba.prog 14 #[.pointer (some ⟨b, 0, none⟩)] w fun e w' => e = .returned (.tuple #[]) ∧ FetchAt w' b 0 taken false (.slice a 0 c) ∧ Fr (fun x => x = b) w w' := by
  have h1 := h.cells.1
  go_enter_defers Yba.func14, Yba.ntmps14
  go_wp2_with fail
  refine (Go.MuLone.lock_free muLib ⟨b, 86, none⟩ _ h1 (h.frozen _)).mono ?_
  rintro e w1 ⟨rfl, hw1⟩
  have E1 : FetchAt w1 b 1 taken held (.slice a 0 c) := by rw [hw1]; exact h.set_st 1
  have F1 : Fr (fun x => x = b) w w1 := by rw [hw1]; exact (Fr.refl (fun x => x = b) w).setCell (p := ⟨b, 86, none⟩) rfl _
  clear hw1 h1
  go_wp2_with fail
  refine (handOn_none b taken held a c _ E1).mono ?_
  rintro e w2 ⟨rfl, E2, F2⟩
  go_wp2_with fail
  refine leaves_cons (f := 27) (args := #[.pointer (some ⟨b, 86, none⟩)]) (by simp) (by simp [go_sem]) ?_
  refine (Go.MuLone.unlock_deferred muLib ⟨b, 86, none⟩ .returning _ E2.cells.1 (E2.frozen _)).mono ?_
  rintro e u' w'' ⟨rfl, rfl, rfl⟩
  refine ⟨_, results_none rfl _ _ _, rfl, E2.set_st 0, Fr.setCell (S := fun x => x = b) ((F1.mono ?_).trans (F2.mono ?_)) (p := ⟨b, 86, none⟩) ?_ _⟩
  · exact fun _ k => k
  · exact fun _ k => k
  · rfl

set_option maxHeartbeats 1000000 in
theorem giveTurn_some (b bl n : Nat) (taken : Int) (held : Bool) (w : World) (h : FetchAt w b 0 taken held (.slice (some ⟨bl, 0, none⟩) n n)) (hn1 : 1 ≤ n) (hbig : n ≤ 65535)
    (hl : Blk w bl (chs bl n n) 25) (hc : w.heap[bl + 1]? = some (.chan 0 #[] false 0 0 false)) (hne : b ≠ bl) (hne1 : b ≠ bl + 1) :
    Calls Yba.prog 14 #[.pointer (some ⟨b, 0, none⟩)] w fun e w' => e = .returned (.tuple #[]) ∧ FetchAt w' b 0 taken held (.slice (some ⟨bl, 0, none⟩) (n - 1) n) ∧ (∃ cs', Blk w' bl cs' 25 ∧ cs'.size = n ∧ ∀ i, i < n - 1 → cs'[i]? = (chs bl n n)[i + 1]?) ∧ Fr (fun x => x = b ∨ x = bl ∨ x = bl + 1) w w' := by
  have h1 := h.cells.1
  go_enter_defers Yba.func14, Yba.ntmps14
  go_wp2_with fail
  refine (Go.MuLone.lock_free muLib ⟨b, 86, none⟩ _ h1 (h.frozen _)).mono ?_
  rintro e w1 ⟨rfl, hw1⟩
  have E1 : FetchAt w1 b 1 taken held (.slice (some ⟨bl, 0, none⟩) n n) := by rw [hw1]; exact h.set_st 1
  have F1 : Fr (fun x => x = b) w w1 := by rw [hw1]; exact (Fr.refl (fun x => x = b) w).setCell (p := ⟨b, 86, none⟩) rfl _
  clear hw1 h1
  go_wp2_with fail
  have hc1 : w1.heap[bl + 1]? = some (.chan 0 #[] false 0 0 false) := by
    rw [F1.keep (bl + 1) (Array.getElem?_eq_some_iff.1 hc).1 (fun e => hne1 e.symm)]; exact hc
  refine (handOn_some b bl n taken held _ E1 hn1 hbig (F1.blk hl (fun e => hne e.symm)) hc1 hne hne1).mono ?_
  rintro e w2 ⟨rfl, E2, hcs, F2⟩
  clear hc hc1
  go_wp2_with fail
  refine leaves_cons (f := 27) (args := #[.pointer (some ⟨b, 86, none⟩)]) (by simp) (by simp [go_sem]) ?_
  refine (Go.MuLone.unlock_deferred muLib ⟨b, 86, none⟩ .returning _ E2.cells.1 (E2.frozen _)).mono ?_
  rintro e u' w'' ⟨rfl, rfl, rfl⟩
  refine ⟨_, results_none rfl _ _ _, rfl, E2.set_st 0, ?_, Fr.setCell (S := fun x => x = b ∨ x = bl ∨ x = bl + 1) ((F1.mono ?_).trans (F2.mono ?_)) (p := ⟨b, 86, none⟩) ?_ _⟩
  · obtain ⟨cs', k1, k2, k3⟩ := hcs
    exact ⟨cs', k1.set_other (Ne.symm hne) _ _, k2, k3⟩
  · exact fun _ k => Or.inl k
  · exact fun _ k => k
  · exact Or.inl rfl
end Go.Proofs.Ybulkefvs
