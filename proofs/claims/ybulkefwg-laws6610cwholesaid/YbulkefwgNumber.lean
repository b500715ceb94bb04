/-
  (*lexer).number by its contract.
-/
import Derived.Test.YbulkefwgPlain
import Derived.Below
import Derived.BigQuiet
import Derived.Deep.QuietTactic
import Derived.Deep.DeepCutAuto
import Derived.Deep.CutBlock
namespace Go.Proofs.Ybulkefwg
open Go.RowKit

theorem nat_sat (V d : Nat) (hd : d ≤ 9) (h : ((min V 9223372036854775807 : Nat) : Int) ≤ (9223372036854775807 - (d : Int)) / 10) : ((min V 9223372036854775807 : Nat) : Int) * 10 + d = ((min (V * 10 + d) 9223372036854775807 : Nat) : Int) := by
  omega
theorem nat_sat' (V d : Nat) (hd : d ≤ 9) (h : ¬ ((min V 9223372036854775807 : Nat) : Int) ≤ (9223372036854775807 - (d : Int)) / 10) : (9223372036854775807 : Int) = ((min (V * 10 + d) 9223372036854775807 : Nat) : Int) := by
  omega

set_option maxHeartbeats 1000000 in
theorem number (b : Nat) (s : ByteArray) (w : World) (hs : s.size ≤ 2097152) (hc : w.cell? ⟨b, 0, none⟩ = some (.string s)) (hf : w.frozen? ⟨b, 0, none⟩ = false) :
    Calls Yba.prog 4 #[.pointer (some ⟨b, 0, none⟩)] w fun e w' => ∃ i, Run s i ∧ e = .returned (.tuple #[.int .i64 ((min (val s 0 i) 9223372036854775807 : Nat) : Int), .bool (decide (0 < i))]) ∧ w' = w.setCell ⟨b, 0, none⟩ (.string (s.extract i s.size)) := by
  go_enter Yba.func4, Yba.ntmps4
  go_wp2_with fail
  go_loop [4, 5] (fun s4 s5 => ∃ i, i ≤ s.size ∧ (∀ j, j < i → 48 ≤ bt s j ∧ bt s j ≤ 57) ∧ s4 = .int .i64 ((min (val s 0 i) 9223372036854775807 : Nat) : Int) ∧ s5 = .int .i64 i) (fun _ s5 => s.size - (intOf s5).toNat)
  case atStart => exact ⟨0, by omega, fun j hj => by omega, rfl, rfl⟩
  case round =>
    obtain ⟨i, hi, hall, rfl, rfl⟩ := hrel
    have hi0 : (0 : Int) ≤ (i : Int) := by omega
    by_cases hlt : i < s.size
    · have hlt' : (i : Int) < (s.size : Int) := by omega
      obtain ⟨c, hcb⟩ : ∃ c, (s[i]'hlt).toNat = c := ⟨_, rfl⟩
      have hbc : bt s i = c := by rw [← bt_eq hlt, hcb]
      by_cases hdig : 48 ≤ c ∧ c ≤ 57
      · have HA := (show Hid (∀ j, j < i → 48 ≤ bt s j ∧ bt s j ≤ 57) from hall)
        have HD := (show Hid (bt s i = c) from hbc)
        have HC := (show Hid (48 ≤ c ∧ c ≤ 57) from hdig)
        obtain ⟨n, hn⟩ : ∃ n : Int, n = ((min (val s 0 i) 9223372036854775807 : Nat) : Int) := ⟨_, rfl⟩
        have HN := (show Hid (n = ((min (val s 0 i) 9223372036854775807 : Nat) : Int)) from hn)
        rw [← hn]
        have q1 : (48 : Int) ≤ (c : Int) := by omega
        have q2 : (c : Int) ≤ 57 := by omega
        clear hall hbc hn hdig
        by_cases hq : n ≤ (9223372036854775807 - ((c : Int) - 48)) / 10
        · go_wp2
          go_round
          case rel =>
            refine ⟨i + 1, by omega, fun j hj => ?_, ?_, by go_num⟩
            · by_cases e : j = i
              · subst e
                have := HC.out
                have := HD.out
                omega
              · exact HA.out j (by omega)
            · have h1 := HN.out
              have h2 := HD.out
              have h3 := HC.out
              have h4 : val s 0 (i + 1) = val s 0 i * 10 + (c - 48) := by rw [val, Nat.zero_add, h2]
              congr 1
              rw [h4]
              simp only [wrap64]
              omega
          case measure => simp [intOf]; omega
        · go_wp2
          go_round
          case rel =>
            refine ⟨i + 1, by omega, fun j hj => ?_, ?_, by go_num⟩
            · by_cases e : j = i
              · subst e
                have := HC.out
                have := HD.out
                omega
              · exact HA.out j (by omega)
            · have h1 := HN.out
              have h2 := HD.out
              have h3 := HC.out
              have h4 : val s 0 (i + 1) = val s 0 i * 10 + (c - 48) := by rw [val, Nat.zero_add, h2]
              congr 1
              rw [h4]
              omega
          case measure => simp [intOf]; omega
      · have HA := (show Hid (∀ j, j < i → 48 ≤ bt s j ∧ bt s j ≤ 57) from hall)
        have HD := (show Hid (bt s i = c) from hbc)
        have HC := (show Hid (¬ (48 ≤ c ∧ c ≤ 57)) from hdig)
        obtain ⟨n, hn⟩ : ∃ n : Int, n = ((min (val s 0 i) 9223372036854775807 : Nat) : Int) := ⟨_, rfl⟩
        have HN := (show Hid (n = ((min (val s 0 i) 9223372036854775807 : Nat) : Int)) from hn)
        have HR : Hid (Run s i) := (show Hid (Run s i) from ⟨hi, hall, fun _ => by rw [hbc]; exact hdig⟩)
        rw [← hn]
        clear hall hbc hn
        by_cases q1 : (48 : Int) ≤ (c : Int)
        · have q2 : ¬ (c : Int) ≤ 57 := by omega
          clear hdig
          go_wp2
          go_ret2
          exact ⟨i, HR.out, by rw [HN.out]; rfl, rfl⟩
        · clear hdig
          go_wp2
          go_ret2
          exact ⟨i, HR.out, by rw [HN.out]; rfl, rfl⟩
    · have e : i = s.size := by omega
      have HR : Hid (Run s i) := (show Hid (Run s i) from ⟨hi, hall, fun h => absurd h hlt⟩)
      obtain ⟨n, hn⟩ : ∃ n : Int, n = ((min (val s 0 i) 9223372036854775807 : Nat) : Int) := ⟨_, rfl⟩
      have HN := (show Hid (n = ((min (val s 0 i) 9223372036854775807 : Nat) : Int)) from hn)
      have HE := (show Hid (i = s.size) from e)
      have q1 : ¬ (i : Int) < (s.size : Int) := by omega
      rw [← hn]
      clear hall hn e
      go_wp2
      go_ret2
      exact ⟨i, HR.out, by rw [HN.out]; rfl, rfl⟩
end Go.Proofs.Ybulkefwg
