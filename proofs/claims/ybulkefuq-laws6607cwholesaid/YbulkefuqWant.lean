/-
  zzs6607cwant: what it answers.
-/
import Derived.Test.YbulkefuqDict
namespace Go.Proofs.Ybulkefuq
open Go.RowKit
set_option linter.unusedSimpArgs false

/-- The last place below k at which g is p. -/
def lastTo (g : Nat → Nat) (p : Nat) : Nat → Option Nat
  | 0 => none
  | k + 1 => if g k = p then some k else lastTo g p k

/-- what was there before, if it is still asked for -/
def want2F (pn : Nat → Nat) (pe : Nat → Option Addr) (m2 : Nat) (gone : Bool) (p : Nat) : Option Addr := if gone then none else (lastTo pn p m2).bind pe
/-- what zzs6607cwant answers: the last entry read of that number, else what was there before. -/
def wantF (rb : Nat) (g : Nat → Nat) (m : Nat) (pn : Nat → Nat) (pe : Nat → Option Addr) (m2 : Nat) (gone : Bool) (p : Nat) : Option Addr :=
  if p ≤ 16777216 then ((lastTo g p m).map fun i => ⟨rb, i * 4 + 1, none⟩).or (want2F pn pe m2 gone p) else want2F pn pe m2 gone p

set_option maxHeartbeats 1000000 in
set_option maxRecDepth 100000 in
theorem want_bigA (p : Nat) (rb m cr : Nat) (g : Nat → Nat) (nb cn : Nat) (eb ce m2 : Nat) (pn : Nat → Nat) (pe : Nat → Option Addr) (w : World)
    (_hp : p < 18446744073709551616) (_hbig : 16777216 < p) (hm2 : m2 ≤ 4096) (hpn : ∀ j, j < m2 → pn j < 18446744073709551616)
    (hN : ∀ j, j < m2 → w.cell? ⟨nb, j, none⟩ = some (.int .u64 (pn j))) (hE : ∀ j, j < m2 → w.cell? ⟨eb, j, none⟩ = some (.pointer (pe j))) :
    Calls Yba.prog 13 #[.int .u64 p, .slice (some ⟨rb, 0, none⟩) m cr, .slice (some ⟨nb, 0, none⟩) m2 cn, .slice (some ⟨eb, 0, none⟩) m2 ce, .bool false] w fun e w' => e = .returned (.pointer (wantF rb g m pn pe m2 false p)) ∧ w = w' := by
  have HD : Hid (wantF rb g m pn pe m2 false p = (lastTo pn p m2).bind pe) := by unfold wantF want2F; rw [if_neg (by omega)]; simp [lastTo]; trivial
  go_enter Yba.func13, Yba.ntmps13
  go_wp2
  go_loop [12] (fun i => ∃ k : Nat, k ≤ m2 ∧ i = .int .i64 ((k : Int) - 1) ∧ lastTo pn p m2 = lastTo pn p k) (fun i => (intOf i + 1).toNat)
  case atStart => exact ⟨m2, Nat.le_refl _, rfl, rfl⟩
  case round =>
    obtain ⟨k, hk, rfl, hl⟩ := hrel
    have HH : Hid (lastTo pn p m2 = lastTo pn p k) := hl
    clear hl
    cases k with
    | zero =>
      go_wp2
      go_ret
      exact ⟨by rw [HD.out, HH.out]; rfl, rfl⟩
    | succ j =>
      have hcN := hN j (by omega)
      have hcE := hE j (by omega)
      have hb := hpn j (by omega)
      by_cases hhit : pn j = p
      · have HV : Hid (lastTo pn p m2 = some j) := by rw [HH.out]; simp [lastTo, hhit]; trivial
        go_wp2
        go_ret
        exact ⟨by rw [HD.out, HV.out]; rfl, rfl⟩
      · have HV : Hid (lastTo pn p m2 = lastTo pn p j) := by rw [HH.out]; simp [lastTo, hhit]; trivial
        go_wp2
        go_round
        case rel => exact ⟨j, by omega, by go_num, HV.out⟩
        case measure => simp [intOf]

set_option maxHeartbeats 1000000 in
set_option maxRecDepth 100000 in
theorem want_smallA (p : Nat) (rb m cr : Nat) (g : Nat → Nat) (nb cn : Nat) (eb ce m2 : Nat) (pn : Nat → Nat) (pe : Nat → Option Addr) (w : World)
    (_hp : p ≤ 16777216) (hm : m ≤ 4096) (hg : ∀ j, j < m → g j < 18446744073709551616) (hG : ∀ j, j < m → w.cell? ⟨rb, j * 4, none⟩ = some (.int .u64 (g j))) (hm2 : m2 ≤ 4096) (hpn : ∀ j, j < m2 → pn j < 18446744073709551616)
    (hN : ∀ j, j < m2 → w.cell? ⟨nb, j, none⟩ = some (.int .u64 (pn j))) (hE : ∀ j, j < m2 → w.cell? ⟨eb, j, none⟩ = some (.pointer (pe j))) :
    Calls Yba.prog 13 #[.int .u64 p, .slice (some ⟨rb, 0, none⟩) m cr, .slice (some ⟨nb, 0, none⟩) m2 cn, .slice (some ⟨eb, 0, none⟩) m2 ce, .bool false] w fun e w' => e = .returned (.pointer (wantF rb g m pn pe m2 false p)) ∧ w = w' := by
  go_enter Yba.func13, Yba.ntmps13
  go_wp2
  go_loop [11] (fun i => ∃ k : Nat, k ≤ m ∧ i = .int .i64 ((k : Int) - 1) ∧ lastTo g p m = lastTo g p k) (fun i => (intOf i + 1).toNat)
  case atStart => exact ⟨m, Nat.le_refl _, rfl, rfl⟩
  case round =>
    obtain ⟨k, hk, rfl, hl⟩ := hrel
    have HH : Hid (lastTo g p m = lastTo g p k) := hl
    clear hl
    cases k with
    | zero =>
      have HD : Hid (wantF rb g m pn pe m2 false p = (lastTo pn p m2).bind pe) := by unfold wantF want2F; rw [if_pos (by omega), HH.out]; simp [lastTo]; trivial
      go_wp2
      go_loop [12] (fun i => ∃ k : Nat, k ≤ m2 ∧ i = .int .i64 ((k : Int) - 1) ∧ lastTo pn p m2 = lastTo pn p k) (fun i => (intOf i + 1).toNat)
      case atStart => exact ⟨m2, Nat.le_refl _, rfl, rfl⟩
      case round =>
        obtain ⟨k, hk, rfl, hl⟩ := hrel
        have HH : Hid (lastTo pn p m2 = lastTo pn p k) := hl
        clear hl
        cases k with
        | zero =>
          go_wp2
          go_ret
          exact ⟨by rw [HD.out, HH.out]; rfl, rfl⟩
        | succ j =>
          have hcN := hN j (by omega)
          have hcE := hE j (by omega)
          have hb := hpn j (by omega)
          by_cases hhit : pn j = p
          · have HV : Hid (lastTo pn p m2 = some j) := by rw [HH.out]; simp [lastTo, hhit]; trivial
            go_wp2
            go_ret
            exact ⟨by rw [HD.out, HV.out]; rfl, rfl⟩
          · have HV : Hid (lastTo pn p m2 = lastTo pn p j) := by rw [HH.out]; simp [lastTo, hhit]; trivial
            go_wp2
            go_round
            case rel => exact ⟨j, by omega, by go_num, HV.out⟩
            case measure => simp [intOf]
    | succ j =>
      have hcG := hG j (by omega)
      have hb := hg j (by omega)
      by_cases hhit : g j = p
      · have HV : Hid (wantF rb g m pn pe m2 false p = some ⟨rb, j * 4 + 1, none⟩) := by unfold wantF; rw [if_pos (by omega), HH.out]; simp [lastTo, hhit]; trivial
        go_wp2
        go_ret
        exact ⟨by rw [HV.out]; rfl, rfl⟩
      · have HV : Hid (lastTo g p m = lastTo g p j) := by rw [HH.out]; simp [lastTo, hhit]; trivial
        go_wp2
        go_round
        case rel => exact ⟨j, by omega, by go_num, HV.out⟩
        case measure => simp [intOf]

set_option maxHeartbeats 1000000 in
set_option maxRecDepth 100000 in
theorem want_bigB (p : Nat) (rb m cr : Nat) (g : Nat → Nat) (aN : Option Addr) (cN : Nat) (vE : Value) (pn : Nat → Nat) (pe : Nat → Option Addr) (w : World)
    (_hp : p < 18446744073709551616) (_hbig : 16777216 < p) :
    Calls Yba.prog 13 #[.int .u64 p, .slice (some ⟨rb, 0, none⟩) m cr, .slice aN 0 cN, vE, .bool false] w fun e w' => e = .returned (.pointer (wantF rb g m pn pe 0 false p)) ∧ w = w' := by
  have HD : Hid (wantF rb g m pn pe 0 false p = none) := by unfold wantF want2F; rw [if_neg (by omega)]; simp [lastTo]; trivial
  go_enter Yba.func13, Yba.ntmps13
  go_wp2
  go_loop [12] (fun i => i = .int .i64 (-1)) (fun _ => 0)
  case atStart => rfl
  case round =>
    subst hrel
    go_wp2
    go_ret
    exact ⟨by rw [HD.out]; rfl, rfl⟩

set_option maxHeartbeats 1000000 in
set_option maxRecDepth 100000 in
theorem want_smallB (p : Nat) (rb m cr : Nat) (g : Nat → Nat) (aN : Option Addr) (cN : Nat) (vE : Value) (pn : Nat → Nat) (pe : Nat → Option Addr) (w : World)
    (_hp : p ≤ 16777216) (hm : m ≤ 4096) (hg : ∀ j, j < m → g j < 18446744073709551616) (hG : ∀ j, j < m → w.cell? ⟨rb, j * 4, none⟩ = some (.int .u64 (g j))) :
    Calls Yba.prog 13 #[.int .u64 p, .slice (some ⟨rb, 0, none⟩) m cr, .slice aN 0 cN, vE, .bool false] w fun e w' => e = .returned (.pointer (wantF rb g m pn pe 0 false p)) ∧ w = w' := by
  go_enter Yba.func13, Yba.ntmps13
  go_wp2
  go_loop [11] (fun i => ∃ k : Nat, k ≤ m ∧ i = .int .i64 ((k : Int) - 1) ∧ lastTo g p m = lastTo g p k) (fun i => (intOf i + 1).toNat)
  case atStart => exact ⟨m, Nat.le_refl _, rfl, rfl⟩
  case round =>
    obtain ⟨k, hk, rfl, hl⟩ := hrel
    have HH : Hid (lastTo g p m = lastTo g p k) := hl
    clear hl
    cases k with
    | zero =>
      have HD : Hid (wantF rb g m pn pe 0 false p = none) := by unfold wantF want2F; rw [if_pos (by omega), HH.out]; simp [lastTo]; trivial
      go_wp2
      go_loop [12] (fun i => i = .int .i64 (-1)) (fun _ => 0)
      case atStart => rfl
      case round =>
        subst hrel
        go_wp2
        go_ret
        exact ⟨by rw [HD.out]; rfl, rfl⟩
    | succ j =>
      have hcG := hG j (by omega)
      have hb := hg j (by omega)
      by_cases hhit : g j = p
      · have HV : Hid (wantF rb g m pn pe 0 false p = some ⟨rb, j * 4 + 1, none⟩) := by unfold wantF; rw [if_pos (by omega), HH.out]; simp [lastTo, hhit]; trivial
        go_wp2
        go_ret
        exact ⟨by rw [HV.out]; rfl, rfl⟩
      · have HV : Hid (lastTo g p m = lastTo g p j) := by rw [HH.out]; simp [lastTo, hhit]; trivial
        go_wp2
        go_round
        case rel => exact ⟨j, by omega, by go_num, HV.out⟩
        case measure => simp [intOf]

set_option maxHeartbeats 1000000 in
set_option maxRecDepth 100000 in
theorem want_bigC (p : Nat) (rb m cr : Nat) (g : Nat → Nat) (vN vE : Value) (m2 : Nat) (pn : Nat → Nat) (pe : Nat → Option Addr) (w : World)
    (_hp : p < 18446744073709551616) (_hbig : 16777216 < p) :
    Calls Yba.prog 13 #[.int .u64 p, .slice (some ⟨rb, 0, none⟩) m cr, vN, vE, .bool true] w fun e w' => e = .returned (.pointer (wantF rb g m pn pe m2 true p)) ∧ w = w' := by
  have HD : Hid (wantF rb g m pn pe m2 true p = none) := by unfold wantF want2F; rw [if_neg (by omega)]; simp [lastTo]; trivial
  go_enter Yba.func13, Yba.ntmps13
  go_wp2
  go_ret
  exact ⟨by rw [HD.out]; rfl, rfl⟩

set_option maxHeartbeats 1000000 in
set_option maxRecDepth 100000 in
theorem want_smallC (p : Nat) (rb m cr : Nat) (g : Nat → Nat) (vN vE : Value) (m2 : Nat) (pn : Nat → Nat) (pe : Nat → Option Addr) (w : World)
    (_hp : p ≤ 16777216) (hm : m ≤ 4096) (hg : ∀ j, j < m → g j < 18446744073709551616) (hG : ∀ j, j < m → w.cell? ⟨rb, j * 4, none⟩ = some (.int .u64 (g j))) :
    Calls Yba.prog 13 #[.int .u64 p, .slice (some ⟨rb, 0, none⟩) m cr, vN, vE, .bool true] w fun e w' => e = .returned (.pointer (wantF rb g m pn pe m2 true p)) ∧ w = w' := by
  go_enter Yba.func13, Yba.ntmps13
  go_wp2
  go_loop [11] (fun i => ∃ k : Nat, k ≤ m ∧ i = .int .i64 ((k : Int) - 1) ∧ lastTo g p m = lastTo g p k) (fun i => (intOf i + 1).toNat)
  case atStart => exact ⟨m, Nat.le_refl _, rfl, rfl⟩
  case round =>
    obtain ⟨k, hk, rfl, hl⟩ := hrel
    have HH : Hid (lastTo g p m = lastTo g p k) := hl
    clear hl
    cases k with
    | zero =>
      have HD : Hid (wantF rb g m pn pe m2 true p = none) := by unfold wantF want2F; rw [if_pos (by omega), HH.out]; simp [lastTo]; trivial
      go_wp2
      go_ret
      exact ⟨by rw [HD.out]; rfl, rfl⟩
    | succ j =>
      have hcG := hG j (by omega)
      have hb := hg j (by omega)
      by_cases hhit : g j = p
      · have HV : Hid (wantF rb g m pn pe m2 true p = some ⟨rb, j * 4 + 1, none⟩) := by unfold wantF; rw [if_pos (by omega), HH.out]; simp [lastTo, hhit]; trivial
        go_wp2
        go_ret
        exact ⟨by rw [HV.out]; rfl, rfl⟩
      · have HV : Hid (lastTo g p m = lastTo g p j) := by rw [HH.out]; simp [lastTo, hhit]; trivial
        go_wp2
        go_round
        case rel => exact ⟨j, by omega, by go_num, HV.out⟩
        case measure => simp [intOf]

/-- The two lists of what was there before: none, or two rows of m2 cells. -/
def PreAt (w : World) (vN vE : Value) (m2 : Nat) (pn : Nat → Nat) (pe : Nat → Option Addr) : Prop :=
  (m2 = 0 ∧ ∃ aN cN, vN = .slice aN 0 cN) ∨
  ∃ nb cn eb ce, vN = .slice (some ⟨nb, 0, none⟩) m2 cn ∧ vE = .slice (some ⟨eb, 0, none⟩) m2 ce ∧ (∀ j, j < m2 → w.cell? ⟨nb, j, none⟩ = some (.int .u64 (pn j))) ∧ (∀ j, j < m2 → w.cell? ⟨eb, j, none⟩ = some (.pointer (pe j)))

theorem want_any (p : Nat) (rb m cr : Nat) (g : Nat → Nat) (vN vE : Value) (m2 : Nat) (pn : Nat → Nat) (pe : Nat → Option Addr) (gone : Bool) (w : World)
    (hp : p < 18446744073709551616) (hm : m ≤ 4096) (hg : ∀ j, j < m → g j < 18446744073709551616) (hG : ∀ j, j < m → w.cell? ⟨rb, j * 4, none⟩ = some (.int .u64 (g j)))
    (hm2 : m2 ≤ 4096) (hpn : ∀ j, j < m2 → pn j < 18446744073709551616) (hpre : PreAt w vN vE m2 pn pe) :
    Calls Yba.prog 13 #[.int .u64 p, .slice (some ⟨rb, 0, none⟩) m cr, vN, vE, .bool gone] w fun e w' => e = .returned (.pointer (wantF rb g m pn pe m2 gone p)) ∧ w = w' := by
  by_cases hb : p ≤ 16777216
  · cases gone with
    | true => exact want_smallC p rb m cr g vN vE m2 pn pe w hb hm hg hG
    | false =>
      rcases hpre with ⟨rfl, aN, cN, rfl⟩ | ⟨nb, cn, eb, ce, rfl, rfl, hN, hE⟩
      · exact want_smallB p rb m cr g aN cN vE pn pe w hb hm hg hG
      · exact want_smallA p rb m cr g nb cn eb ce m2 pn pe w hb hm hg hG hm2 hpn hN hE
  · cases gone with
    | true => exact want_bigC p rb m cr g vN vE m2 pn pe w hp (by omega)
    | false =>
      rcases hpre with ⟨rfl, aN, cN, rfl⟩ | ⟨nb, cn, eb, ce, rfl, rfl, hN, hE⟩
      · exact want_bigB p rb m cr g aN cN vE pn pe w hp (by omega)
      · exact want_bigA p rb m cr g nb cn eb ce m2 pn pe w hp (by omega) hm2 hpn hN hE
end Go.Proofs.Ybulkefuq
