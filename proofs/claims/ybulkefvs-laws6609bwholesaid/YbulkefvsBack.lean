/-
  (*download).giveBack by three contracts: no turn held; the turn held and nobody in line; somebody in line.
-/
import Derived.Test.YbulkefvsGive
namespace Go.Proofs.Ybulkefvs
open Go.RowKit

/-- A download's cells. -/
def dcells (bf : Nat) (size next hashed : Int) (ahead : Value) (far : Int) (kept : Value) (keeps turn : Bool) : Array Value :=
  #[.pointer none, .nilIface, .nilIface, .pointer (some ⟨bf, 0, none⟩), .pointer none, .int .i64 size, .int .i64 next, .int .i64 hashed, ahead, .int .i64 far, .pointer none, kept, .slice none 0 0, .bool keeps, .bool turn,
    .int .u64 0, .int .i64 0, .pointer none, .int .i64 0, .pointer none, .int .u64 0, .int .i64 0, .pointer none, .int .i64 0, .int .i64 0, .int .i64 0, .bool false, .nilIface]

/-- How much room giveBack gives back. -/
def roomOf (far size : Int) (keeps : Bool) : Int := if keeps then wrap64 (wrap64 (far * 16384) + size) else wrap64 (far * 16384)

set_option maxHeartbeats 1000000 in
theorem back_plain_true (bd b : Nat) (taken size next hashed far : Int) (ahead kept line : Value) (held : Bool) (w : World) (h : FetchAt w b 0 taken held line) (hd : Blk w bd (dcells b size next hashed ahead far kept true false) 62) (hbd : bd ≠ b) :
    Calls Yba.prog 5 #[.pointer (some ⟨bd, 0, none⟩)] w fun e w' => e = .returned (.tuple #[]) ∧ FetchAt w' b 0 (wrap64 (taken - wrap64 (wrap64 (far * 16384) + size))) held (line) ∧ Blk w' bd (dcells b size next hashed (.map none) 0 (.slice none 0 0) false false) 62 ∧ Fr (fun x => x = bd ∨ x = b) w w' := by
  have d3 : w.cell? ⟨bd, 3, none⟩ = some (.pointer (some ⟨b, 0, none⟩)) := by rw [hd.cell]; rfl
  have d5 : w.cell? ⟨bd, 5, none⟩ = some (.int .i64 size) := by rw [hd.cell]; rfl
  have d9 : w.cell? ⟨bd, 9, none⟩ = some (.int .i64 far) := by rw [hd.cell]; rfl
  have d13 : w.cell? ⟨bd, 13, none⟩ = some (.bool true) := by rw [hd.cell]; rfl
  go_enter Yba.func5, Yba.ntmps5
  go_wp2_with fail
  refine (giveRoom b _ taken held (line) _ h).mono ?_
  rintro e w1 ⟨rfl, E1, F1⟩
  have D1 := F1.blk hd hbd
  have d14 : w1.cell? ⟨bd, 14, none⟩ = some (.bool false) := by rw [D1.cell]; rfl
  have d31 : w1.cell? ⟨bd, 3, none⟩ = some (.pointer (some ⟨b, 0, none⟩)) := by rw [D1.cell]; rfl
  have E2 := E1
  have F2 : Fr (fun x => x = b) w1 w1 := Fr.refl _ _
  have D2 := D1
  have e9 : w1.cell? ⟨bd, 9, none⟩ = some (.int .i64 far) := by rw [D2.cell]; rfl
  have e13 : w1.cell? ⟨bd, 13, none⟩ = some (.bool true) := by rw [D2.cell]; rfl
  have e14 : w1.cell? ⟨bd, 14, none⟩ = some (.bool false) := by rw [D2.cell]; rfl
  have e8 : w1.cell? ⟨bd, 8, none⟩ = some ahead := by rw [D2.cell]; rfl
  have e11 : w1.cell? ⟨bd, 11, none⟩ = some kept := by rw [D2.cell]; rfl
  have z8 := D2.frozen 8
  have z9 := D2.frozen 9
  have z11 := D2.frozen 11
  have z13 := D2.frozen 13
  have z14 := D2.frozen 14
  go_wp2
  go_end0
  have F3 : Fr (fun x => x = bd ∨ x = b) w w1 := (F1.mono (fun x hx => Or.inr hx)).trans (F2.mono (fun x hx => Or.inr hx))
  refine ⟨rfl, ?_, ?_, ?_⟩
  · exact FetchAt.fr (S := fun x => x = bd) E2 (((((Fr.refl (fun x => x = bd) w1).setCell (p := ⟨bd, 9, none⟩) rfl _).setCell (p := ⟨bd, 13, none⟩) rfl _).setCell (p := ⟨bd, 14, none⟩) rfl _).setCell (p := ⟨bd, 8, none⟩) rfl _ |>.setCell (p := ⟨bd, 11, none⟩) rfl _) (fun e => hbd e.symm)
  · exact (((((D2.set_same 9 _).set_same 13 _).set_same 14 _).set_same 8 _).set_same 11 _)
  · exact ((((F3.setCell (p := ⟨bd, 9, none⟩) (Or.inl rfl) _).setCell (p := ⟨bd, 13, none⟩) (Or.inl rfl) _).setCell (p := ⟨bd, 14, none⟩) (Or.inl rfl) _).setCell (p := ⟨bd, 8, none⟩) (Or.inl rfl) _).setCell (p := ⟨bd, 11, none⟩) (Or.inl rfl) _

set_option maxHeartbeats 1000000 in
theorem back_none_true (bd b : Nat) (taken size next hashed far : Int) (ahead kept : Value) (held : Bool) (a : Option Addr) (c : Nat) (w : World) (h : FetchAt w b 0 taken held (.slice a 0 c)) (hd : Blk w bd (dcells b size next hashed ahead far kept true true) 62) (hbd : bd ≠ b) :
    Calls Yba.prog 5 #[.pointer (some ⟨bd, 0, none⟩)] w fun e w' => e = .returned (.tuple #[]) ∧ FetchAt w' b 0 (wrap64 (taken - wrap64 (wrap64 (far * 16384) + size))) false (.slice a 0 c) ∧ Blk w' bd (dcells b size next hashed (.map none) 0 (.slice none 0 0) false false) 62 ∧ Fr (fun x => x = bd ∨ x = b) w w' := by
  have d3 : w.cell? ⟨bd, 3, none⟩ = some (.pointer (some ⟨b, 0, none⟩)) := by rw [hd.cell]; rfl
  have d5 : w.cell? ⟨bd, 5, none⟩ = some (.int .i64 size) := by rw [hd.cell]; rfl
  have d9 : w.cell? ⟨bd, 9, none⟩ = some (.int .i64 far) := by rw [hd.cell]; rfl
  have d13 : w.cell? ⟨bd, 13, none⟩ = some (.bool true) := by rw [hd.cell]; rfl
  go_enter Yba.func5, Yba.ntmps5
  go_wp2_with fail
  refine (giveRoom b _ taken held (.slice a 0 c) _ h).mono ?_
  rintro e w1 ⟨rfl, E1, F1⟩
  have D1 := F1.blk hd hbd
  have d14 : w1.cell? ⟨bd, 14, none⟩ = some (.bool true) := by rw [D1.cell]; rfl
  have d31 : w1.cell? ⟨bd, 3, none⟩ = some (.pointer (some ⟨b, 0, none⟩)) := by rw [D1.cell]; rfl
  go_wp2_with fail
  refine (giveTurn_none b _ held a c _ E1).mono ?_
  rintro e w2 ⟨rfl, E2, F2⟩
  have D2 := F2.blk D1 hbd
  have e9 : w2.cell? ⟨bd, 9, none⟩ = some (.int .i64 far) := by rw [D2.cell]; rfl
  have e13 : w2.cell? ⟨bd, 13, none⟩ = some (.bool true) := by rw [D2.cell]; rfl
  have e14 : w2.cell? ⟨bd, 14, none⟩ = some (.bool true) := by rw [D2.cell]; rfl
  have e8 : w2.cell? ⟨bd, 8, none⟩ = some ahead := by rw [D2.cell]; rfl
  have e11 : w2.cell? ⟨bd, 11, none⟩ = some kept := by rw [D2.cell]; rfl
  have z8 := D2.frozen 8
  have z9 := D2.frozen 9
  have z11 := D2.frozen 11
  have z13 := D2.frozen 13
  have z14 := D2.frozen 14
  go_wp2
  go_end0
  have F3 : Fr (fun x => x = bd ∨ x = b) w w2 := (F1.mono (fun x hx => Or.inr hx)).trans (F2.mono (fun x hx => Or.inr hx))
  refine ⟨rfl, ?_, ?_, ?_⟩
  · exact FetchAt.fr (S := fun x => x = bd) E2 (((((Fr.refl (fun x => x = bd) w2).setCell (p := ⟨bd, 9, none⟩) rfl _).setCell (p := ⟨bd, 13, none⟩) rfl _).setCell (p := ⟨bd, 14, none⟩) rfl _).setCell (p := ⟨bd, 8, none⟩) rfl _ |>.setCell (p := ⟨bd, 11, none⟩) rfl _) (fun e => hbd e.symm)
  · exact (((((D2.set_same 9 _).set_same 13 _).set_same 14 _).set_same 8 _).set_same 11 _)
  · exact ((((F3.setCell (p := ⟨bd, 9, none⟩) (Or.inl rfl) _).setCell (p := ⟨bd, 13, none⟩) (Or.inl rfl) _).setCell (p := ⟨bd, 14, none⟩) (Or.inl rfl) _).setCell (p := ⟨bd, 8, none⟩) (Or.inl rfl) _).setCell (p := ⟨bd, 11, none⟩) (Or.inl rfl) _

set_option maxHeartbeats 1000000 in
theorem back_some_true (bd b bl n : Nat) (taken size next hashed far : Int) (ahead kept : Value) (held : Bool) (w : World) (h : FetchAt w b 0 taken held (.slice (some ⟨bl, 0, none⟩) n n)) (hd : Blk w bd (dcells b size next hashed ahead far kept true true) 62) (hbd : bd ≠ b)
    (hn1 : 1 ≤ n) (hbig : n ≤ 65535) (hl : Blk w bl (chs bl n n) 25) (hc : w.heap[bl + 1]? = some (.chan 0 #[] false 0 0 false)) (hne : b ≠ bl) (hne1 : b ≠ bl + 1) (hdl : bd ≠ bl) (hdl1 : bd ≠ bl + 1) :
    Calls Yba.prog 5 #[.pointer (some ⟨bd, 0, none⟩)] w fun e w' => e = .returned (.tuple #[]) ∧ FetchAt w' b 0 (wrap64 (taken - wrap64 (wrap64 (far * 16384) + size))) held (.slice (some ⟨bl, 0, none⟩) (n - 1) n) ∧ Blk w' bd (dcells b size next hashed (.map none) 0 (.slice none 0 0) false false) 62 ∧ (∃ cs', Blk w' bl cs' 25 ∧ cs'.size = n ∧ ∀ i, i < n - 1 → cs'[i]? = (chs bl n n)[i + 1]?) ∧ Fr (fun x => x = bd ∨ x = b ∨ x = bl ∨ x = bl + 1) w w' := by
  have d3 : w.cell? ⟨bd, 3, none⟩ = some (.pointer (some ⟨b, 0, none⟩)) := by rw [hd.cell]; rfl
  have d5 : w.cell? ⟨bd, 5, none⟩ = some (.int .i64 size) := by rw [hd.cell]; rfl
  have d9 : w.cell? ⟨bd, 9, none⟩ = some (.int .i64 far) := by rw [hd.cell]; rfl
  have d13 : w.cell? ⟨bd, 13, none⟩ = some (.bool true) := by rw [hd.cell]; rfl
  go_enter Yba.func5, Yba.ntmps5
  go_wp2_with fail
  refine (giveRoom b _ taken held (.slice (some ⟨bl, 0, none⟩) n n) _ h).mono ?_
  rintro e w1 ⟨rfl, E1, F1⟩
  have D1 := F1.blk hd hbd
  have d14 : w1.cell? ⟨bd, 14, none⟩ = some (.bool true) := by rw [D1.cell]; rfl
  have d31 : w1.cell? ⟨bd, 3, none⟩ = some (.pointer (some ⟨b, 0, none⟩)) := by rw [D1.cell]; rfl
  go_wp2_with fail
  have hc1 : w1.heap[bl + 1]? = some (.chan 0 #[] false 0 0 false) := by
    rw [F1.keep (bl + 1) (Array.getElem?_eq_some_iff.1 hc).1 (fun e => hne1 e.symm)]; exact hc
  refine (giveTurn_some b bl n _ held _ E1 hn1 hbig (F1.blk hl (fun e => hne e.symm)) hc1 hne hne1).mono ?_
  rintro e w2 ⟨rfl, E2, hcs, F2⟩
  clear hc hc1
  have D2 := F2.blk D1 (by omega)
  have e9 : w2.cell? ⟨bd, 9, none⟩ = some (.int .i64 far) := by rw [D2.cell]; rfl
  have e13 : w2.cell? ⟨bd, 13, none⟩ = some (.bool true) := by rw [D2.cell]; rfl
  have e14 : w2.cell? ⟨bd, 14, none⟩ = some (.bool true) := by rw [D2.cell]; rfl
  have e8 : w2.cell? ⟨bd, 8, none⟩ = some ahead := by rw [D2.cell]; rfl
  have e11 : w2.cell? ⟨bd, 11, none⟩ = some kept := by rw [D2.cell]; rfl
  have z8 := D2.frozen 8
  have z9 := D2.frozen 9
  have z11 := D2.frozen 11
  have z13 := D2.frozen 13
  have z14 := D2.frozen 14
  go_wp2
  go_end0
  have F3 : Fr (fun x => x = bd ∨ x = b ∨ x = bl ∨ x = bl + 1) w w2 := (F1.mono (fun x hx => Or.inr (Or.inl hx))).trans (F2.mono (fun x hx => Or.inr hx))
  refine ⟨rfl, ?_, ?_, ?_, ?_⟩
  · exact FetchAt.fr (S := fun x => x = bd) E2 (((((Fr.refl (fun x => x = bd) w2).setCell (p := ⟨bd, 9, none⟩) rfl _).setCell (p := ⟨bd, 13, none⟩) rfl _).setCell (p := ⟨bd, 14, none⟩) rfl _).setCell (p := ⟨bd, 8, none⟩) rfl _ |>.setCell (p := ⟨bd, 11, none⟩) rfl _) (fun e => hbd e.symm)
  · exact (((((D2.set_same 9 _).set_same 13 _).set_same 14 _).set_same 8 _).set_same 11 _)
  · obtain ⟨cs', k1, k2, k3⟩ := hcs
    exact ⟨cs', ((((k1.set_other (Ne.symm hdl) _ _).set_other (Ne.symm hdl) _ _).set_other (Ne.symm hdl) _ _).set_other (Ne.symm hdl) _ _).set_other (Ne.symm hdl) _ _, k2, k3⟩
  · exact ((((F3.setCell (p := ⟨bd, 9, none⟩) (Or.inl rfl) _).setCell (p := ⟨bd, 13, none⟩) (Or.inl rfl) _).setCell (p := ⟨bd, 14, none⟩) (Or.inl rfl) _).setCell (p := ⟨bd, 8, none⟩) (Or.inl rfl) _).setCell (p := ⟨bd, 11, none⟩) (Or.inl rfl) _

set_option maxHeartbeats 1000000 in
theorem back_plain_false (bd b : Nat) (taken size next hashed far : Int) (ahead kept line : Value) (held : Bool) (w : World) (h : FetchAt w b 0 taken held line) (hd : Blk w bd (dcells b size next hashed ahead far kept false false) 62) (hbd : bd ≠ b) :
    Calls Yba.prog 5 #[.pointer (some ⟨bd, 0, none⟩)] w fun e w' => e = .returned (.tuple #[]) ∧ FetchAt w' b 0 (wrap64 (taken - wrap64 (far * 16384))) held (line) ∧ Blk w' bd (dcells b size next hashed (.map none) 0 (.slice none 0 0) false false) 62 ∧ Fr (fun x => x = bd ∨ x = b) w w' := by
  have d3 : w.cell? ⟨bd, 3, none⟩ = some (.pointer (some ⟨b, 0, none⟩)) := by rw [hd.cell]; rfl
  have d5 : w.cell? ⟨bd, 5, none⟩ = some (.int .i64 size) := by rw [hd.cell]; rfl
  have d9 : w.cell? ⟨bd, 9, none⟩ = some (.int .i64 far) := by rw [hd.cell]; rfl
  have d13 : w.cell? ⟨bd, 13, none⟩ = some (.bool false) := by rw [hd.cell]; rfl
  go_enter Yba.func5, Yba.ntmps5
  go_wp2_with fail
  refine (giveRoom b _ taken held (line) _ h).mono ?_
  rintro e w1 ⟨rfl, E1, F1⟩
  have D1 := F1.blk hd hbd
  have d14 : w1.cell? ⟨bd, 14, none⟩ = some (.bool false) := by rw [D1.cell]; rfl
  have d31 : w1.cell? ⟨bd, 3, none⟩ = some (.pointer (some ⟨b, 0, none⟩)) := by rw [D1.cell]; rfl
  have E2 := E1
  have F2 : Fr (fun x => x = b) w1 w1 := Fr.refl _ _
  have D2 := D1
  have e9 : w1.cell? ⟨bd, 9, none⟩ = some (.int .i64 far) := by rw [D2.cell]; rfl
  have e13 : w1.cell? ⟨bd, 13, none⟩ = some (.bool false) := by rw [D2.cell]; rfl
  have e14 : w1.cell? ⟨bd, 14, none⟩ = some (.bool false) := by rw [D2.cell]; rfl
  have e8 : w1.cell? ⟨bd, 8, none⟩ = some ahead := by rw [D2.cell]; rfl
  have e11 : w1.cell? ⟨bd, 11, none⟩ = some kept := by rw [D2.cell]; rfl
  have z8 := D2.frozen 8
  have z9 := D2.frozen 9
  have z11 := D2.frozen 11
  have z13 := D2.frozen 13
  have z14 := D2.frozen 14
  go_wp2
  go_end0
  have F3 : Fr (fun x => x = bd ∨ x = b) w w1 := (F1.mono (fun x hx => Or.inr hx)).trans (F2.mono (fun x hx => Or.inr hx))
  refine ⟨rfl, ?_, ?_, ?_⟩
  · exact FetchAt.fr (S := fun x => x = bd) E2 (((((Fr.refl (fun x => x = bd) w1).setCell (p := ⟨bd, 9, none⟩) rfl _).setCell (p := ⟨bd, 13, none⟩) rfl _).setCell (p := ⟨bd, 14, none⟩) rfl _).setCell (p := ⟨bd, 8, none⟩) rfl _ |>.setCell (p := ⟨bd, 11, none⟩) rfl _) (fun e => hbd e.symm)
  · exact (((((D2.set_same 9 _).set_same 13 _).set_same 14 _).set_same 8 _).set_same 11 _)
  · exact ((((F3.setCell (p := ⟨bd, 9, none⟩) (Or.inl rfl) _).setCell (p := ⟨bd, 13, none⟩) (Or.inl rfl) _).setCell (p := ⟨bd, 14, none⟩) (Or.inl rfl) _).setCell (p := ⟨bd, 8, none⟩) (Or.inl rfl) _).setCell (p := ⟨bd, 11, none⟩) (Or.inl rfl) _

set_option maxHeartbeats 1000000 in
theorem back_none_false (bd b : Nat) (taken size next hashed far : Int) (ahead kept : Value) (held : Bool) (a : Option Addr) (c : Nat) (w : World) (h : FetchAt w b 0 taken held (.slice a 0 c)) (hd : Blk w bd (dcells b size next hashed ahead far kept false true) 62) (hbd : bd ≠ b) :
    Calls Yba.prog 5 #[.pointer (some ⟨bd, 0, none⟩)] w fun e w' => e = .returned (.tuple #[]) ∧ FetchAt w' b 0 (wrap64 (taken - wrap64 (far * 16384))) false (.slice a 0 c) ∧ Blk w' bd (dcells b size next hashed (.map none) 0 (.slice none 0 0) false false) 62 ∧ Fr (fun x => x = bd ∨ x = b) w w' := by
  have d3 : w.cell? ⟨bd, 3, none⟩ = some (.pointer (some ⟨b, 0, none⟩)) := by rw [hd.cell]; rfl
  have d5 : w.cell? ⟨bd, 5, none⟩ = some (.int .i64 size) := by rw [hd.cell]; rfl
  have d9 : w.cell? ⟨bd, 9, none⟩ = some (.int .i64 far) := by rw [hd.cell]; rfl
  have d13 : w.cell? ⟨bd, 13, none⟩ = some (.bool false) := by rw [hd.cell]; rfl
  go_enter Yba.func5, Yba.ntmps5
  go_wp2_with fail
  refine (giveRoom b _ taken held (.slice a 0 c) _ h).mono ?_
  rintro e w1 ⟨rfl, E1, F1⟩
  have D1 := F1.blk hd hbd
  have d14 : w1.cell? ⟨bd, 14, none⟩ = some (.bool true) := by rw [D1.cell]; rfl
  have d31 : w1.cell? ⟨bd, 3, none⟩ = some (.pointer (some ⟨b, 0, none⟩)) := by rw [D1.cell]; rfl
  go_wp2_with fail
  refine (giveTurn_none b _ held a c _ E1).mono ?_
  rintro e w2 ⟨rfl, E2, F2⟩
  have D2 := F2.blk D1 hbd
  have e9 : w2.cell? ⟨bd, 9, none⟩ = some (.int .i64 far) := by rw [D2.cell]; rfl
  have e13 : w2.cell? ⟨bd, 13, none⟩ = some (.bool false) := by rw [D2.cell]; rfl
  have e14 : w2.cell? ⟨bd, 14, none⟩ = some (.bool true) := by rw [D2.cell]; rfl
  have e8 : w2.cell? ⟨bd, 8, none⟩ = some ahead := by rw [D2.cell]; rfl
  have e11 : w2.cell? ⟨bd, 11, none⟩ = some kept := by rw [D2.cell]; rfl
  have z8 := D2.frozen 8
  have z9 := D2.frozen 9
  have z11 := D2.frozen 11
  have z13 := D2.frozen 13
  have z14 := D2.frozen 14
  go_wp2
  go_end0
  have F3 : Fr (fun x => x = bd ∨ x = b) w w2 := (F1.mono (fun x hx => Or.inr hx)).trans (F2.mono (fun x hx => Or.inr hx))
  refine ⟨rfl, ?_, ?_, ?_⟩
  · exact FetchAt.fr (S := fun x => x = bd) E2 (((((Fr.refl (fun x => x = bd) w2).setCell (p := ⟨bd, 9, none⟩) rfl _).setCell (p := ⟨bd, 13, none⟩) rfl _).setCell (p := ⟨bd, 14, none⟩) rfl _).setCell (p := ⟨bd, 8, none⟩) rfl _ |>.setCell (p := ⟨bd, 11, none⟩) rfl _) (fun e => hbd e.symm)
  · exact (((((D2.set_same 9 _).set_same 13 _).set_same 14 _).set_same 8 _).set_same 11 _)
  · exact ((((F3.setCell (p := ⟨bd, 9, none⟩) (Or.inl rfl) _).setCell (p := ⟨bd, 13, none⟩) (Or.inl rfl) _).setCell (p := ⟨bd, 14, none⟩) (Or.inl rfl) _).setCell (p := ⟨bd, 8, none⟩) (Or.inl rfl) _).setCell (p := ⟨bd, 11, none⟩) (Or.inl rfl) _

set_option maxHeartbeats 1000000 in
theorem back_some_false (bd b bl n : Nat) (taken size next hashed far : Int) (ahead kept : Value) (held : Bool) (w : World) (h : FetchAt w b 0 taken held (.slice (some ⟨bl, 0, none⟩) n n)) (hd : Blk w bd (dcells b size next hashed ahead far kept false true) 62) (hbd : bd ≠ b)
    (hn1 : 1 ≤ n) (hbig : n ≤ 65535) (hl : Blk w bl (chs bl n n) 25) (hc : w.heap[bl + 1]? = some (.chan 0 #[] false 0 0 false)) (hne : b ≠ bl) (hne1 : b ≠ bl + 1) (hdl : bd ≠ bl) (hdl1 : bd ≠ bl + 1) :
    Calls Yba.prog 5 #[.pointer (some ⟨bd, 0, none⟩)] w fun e w' => e = .returned (.tuple #[]) ∧ FetchAt w' b 0 (wrap64 (taken - wrap64 (far * 16384))) held (.slice (some ⟨bl, 0, none⟩) (n - 1) n) ∧ Blk w' bd (dcells b size next hashed (.map none) 0 (.slice none 0 0) false false) 62 ∧ (∃ cs', Blk w' bl cs' 25 ∧ cs'.size = n ∧ ∀ i, i < n - 1 → cs'[i]? = (chs bl n n)[i + 1]?) ∧ Fr (fun x => x = bd ∨ x = b ∨ x = bl ∨ x = bl + 1) w w' := by
  have d3 : w.cell? ⟨bd, 3, none⟩ = some (.pointer (some ⟨b, 0, none⟩)) := by rw [hd.cell]; rfl
  have d5 : w.cell? ⟨bd, 5, none⟩ = some (.int .i64 size) := by rw [hd.cell]; rfl
  have d9 : w.cell? ⟨bd, 9, none⟩ = some (.int .i64 far) := by rw [hd.cell]; rfl
  have d13 : w.cell? ⟨bd, 13, none⟩ = some (.bool false) := by rw [hd.cell]; rfl
  go_enter Yba.func5, Yba.ntmps5
  go_wp2_with fail
  refine (giveRoom b _ taken held (.slice (some ⟨bl, 0, none⟩) n n) _ h).mono ?_
  rintro e w1 ⟨rfl, E1, F1⟩
  have D1 := F1.blk hd hbd
  have d14 : w1.cell? ⟨bd, 14, none⟩ = some (.bool true) := by rw [D1.cell]; rfl
  have d31 : w1.cell? ⟨bd, 3, none⟩ = some (.pointer (some ⟨b, 0, none⟩)) := by rw [D1.cell]; rfl
  go_wp2_with fail
  have hc1 : w1.heap[bl + 1]? = some (.chan 0 #[] false 0 0 false) := by
    rw [F1.keep (bl + 1) (Array.getElem?_eq_some_iff.1 hc).1 (fun e => hne1 e.symm)]; exact hc
  refine (giveTurn_some b bl n _ held _ E1 hn1 hbig (F1.blk hl (fun e => hne e.symm)) hc1 hne hne1).mono ?_
  rintro e w2 ⟨rfl, E2, hcs, F2⟩
  clear hc hc1
  have D2 := F2.blk D1 (by omega)
  have e9 : w2.cell? ⟨bd, 9, none⟩ = some (.int .i64 far) := by rw [D2.cell]; rfl
  have e13 : w2.cell? ⟨bd, 13, none⟩ = some (.bool false) := by rw [D2.cell]; rfl
  have e14 : w2.cell? ⟨bd, 14, none⟩ = some (.bool true) := by rw [D2.cell]; rfl
  have e8 : w2.cell? ⟨bd, 8, none⟩ = some ahead := by rw [D2.cell]; rfl
  have e11 : w2.cell? ⟨bd, 11, none⟩ = some kept := by rw [D2.cell]; rfl
  have z8 := D2.frozen 8
  have z9 := D2.frozen 9
  have z11 := D2.frozen 11
  have z13 := D2.frozen 13
  have z14 := D2.frozen 14
  go_wp2
  go_end0
  have F3 : Fr (fun x => x = bd ∨ x = b ∨ x = bl ∨ x = bl + 1) w w2 := (F1.mono (fun x hx => Or.inr (Or.inl hx))).trans (F2.mono (fun x hx => Or.inr hx))
  refine ⟨rfl, ?_, ?_, ?_, ?_⟩
  · exact FetchAt.fr (S := fun x => x = bd) E2 (((((Fr.refl (fun x => x = bd) w2).setCell (p := ⟨bd, 9, none⟩) rfl _).setCell (p := ⟨bd, 13, none⟩) rfl _).setCell (p := ⟨bd, 14, none⟩) rfl _).setCell (p := ⟨bd, 8, none⟩) rfl _ |>.setCell (p := ⟨bd, 11, none⟩) rfl _) (fun e => hbd e.symm)
  · exact (((((D2.set_same 9 _).set_same 13 _).set_same 14 _).set_same 8 _).set_same 11 _)
  · obtain ⟨cs', k1, k2, k3⟩ := hcs
    exact ⟨cs', ((((k1.set_other (Ne.symm hdl) _ _).set_other (Ne.symm hdl) _ _).set_other (Ne.symm hdl) _ _).set_other (Ne.symm hdl) _ _).set_other (Ne.symm hdl) _ _, k2, k3⟩
  · exact ((((F3.setCell (p := ⟨bd, 9, none⟩) (Or.inl rfl) _).setCell (p := ⟨bd, 13, none⟩) (Or.inl rfl) _).setCell (p := ⟨bd, 14, none⟩) (Or.inl rfl) _).setCell (p := ⟨bd, 8, none⟩) (Or.inl rfl) _).setCell (p := ⟨bd, 11, none⟩) (Or.inl rfl) _
end Go.Proofs.Ybulkefvs
