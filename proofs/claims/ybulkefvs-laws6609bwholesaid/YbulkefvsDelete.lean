/-
  slices.Delete of the first element of a row of channels.
-/
import Derived.Test.YbulkefvsMem
import Derived.Deep.RegionLaw
import Derived.Lib.SliceRun
namespace Go.Proofs.Ybulkefvs
open Go.RowKit

theorem info25 : ∃ i : TypeInfo, Yba.prog.info? 25 = some i ∧ i.size = 1 ∧ i.bytes = 8 ∧ i.zero = some (.chan none) := by
  have h : (Yba.prog.info? 25).map (fun i : TypeInfo => (i.size, i.bytes, i.zero)) = some (1, 8, some (.chan none)) := by kernel_rfl
  obtain ⟨i, hi, e⟩ := Option.map_eq_some_iff.1 h
  simp only [Prod.mk.injEq] at e
  exact ⟨i, hi, e.1, e.2.1, e.2.2⟩

set_option maxHeartbeats 1000000 in
theorem delete_first (b n : Nat) (cs : Array Value) (w : World) (hb : Blk w b cs 25) (hn : cs.size = n) (h1 : 1 ≤ n) (hbig : n ≤ 65535) (hone : ∀ (i : Nat) (u : Value), cs[i]? = some u → u.oneCell' = true) :
    Calls Yba.prog 35 #[.slice (some ⟨b, 0, none⟩) n n, .int .i64 0, .int .i64 1] w fun e w' => e = .returned (.slice (some ⟨b, 0, none⟩) (n - 1) n) ∧
      (∃ cs', Blk w' b cs' 25 ∧ cs'.size = n ∧ ∀ i, i < n - 1 → cs'[i]? = cs[i + 1]?) ∧ Fr (fun x => x = b) w w' := by
  obtain ⟨i0, hi0, hz1, -, -⟩ := info25
  obtain ⟨news, hnews⟩ : ∃ news, news = cs.toList.drop 1 := ⟨_, rfl⟩
  have hlen : news.length = n - 1 := by rw [hnews]; simp [hn]
  have hget : ∀ t, news[t]? = cs[t + 1]? := fun t => by rw [hnews, List.getElem?_drop, Array.getElem?_toList, Nat.add_comm]
  obtain ⟨A, hA, hsrc⟩ : ∃ A : Addr, (if n = 1 then some (⟨b, 0, none⟩ : Addr) else some ⟨b, 1, none⟩) = some A ∧ Hid (∀ t u, news[t]? = some u → w.drew.cell? (A.add t) = some u) := by
    by_cases h : n = 1
    · refine ⟨⟨b, 0, none⟩, by simp [h], fun t u hu => ?_⟩
      have h0 : news.length = 0 := by omega
      rw [List.length_eq_zero_iff.1 h0] at hu
      simp at hu
    · refine ⟨⟨b, 1, none⟩, by simp [h], fun t u hu => ?_⟩
      rw [hget t] at hu
      show w.cell? _ = _
      rw [Addr.add_lit, hb.cell, Nat.add_comm]
      exact hu
  have s1 : Hid (news.length = (n - 1) * 1) := by rw [Nat.mul_one]; exact hlen
  have s2 : Hid (∀ u ∈ news, u.oneCell' = true) := by
    intro u hu
    obtain ⟨t, ht, e⟩ := List.getElem_of_mem hu
    exact hone (t + 1) u (by rw [← hget t, List.getElem?_eq_getElem ht]; exact congrArg some e)
  have s3 : Hid (∀ t, t < news.length → (w.drew.cell? ⟨b, 0 + 0 * 1 + t, none⟩).isSome = true ∧ w.drew.frozen? ⟨b, 0 + 0 * 1 + t, none⟩ = false) := by
    intro t ht
    refine ⟨?_, hb.frozen _⟩
    show (w.cell? _).isSome = true
    rw [hb.cell]
    simp
    omega
  obtain ⟨W1, hW1⟩ : ∃ W1, W1 = w.drew.setCells b (0 + 0 * 1) news := ⟨_, rfl⟩
  have hB0 : Blk w.drew b cs 25 := hb
  obtain ⟨cs1, hB1, hz, -, hin, hout⟩ := Blk.setCells news (0 + 0 * 1) hB0
  rw [← hW1] at hB1
  have hF1 : Fr (fun x => x = b) w W1 := by rw [hW1]; exact Fr.setCells (S := fun x => x = b) rfl news _ (Fr.refl _ w).draw
  have hcl : ∀ ty, (Builtin.clear_ #[24] ty #[.slice (some ⟨b, n - 1, none⟩) 1 1]).run Yba.prog W1 = .ok (.tuple #[]) (W1.setCells b (n - 1) (List.replicate 1 (.chan none))) :=
    fun ty => Lib.run_clear_slice W1 24 25 ty (.chan none) Yba.underlying24 Yba.zeroValue25 rfl rfl b (n - 1) 1 1 (by omega) (fun t ht => by rw [hB1.cell]; simp; omega) (fun t ht => hB1.frozen _)
  have hW : Hid (W1 = w.drew.setCells b (0 + 0 * 1) news) := hW1
  obtain ⟨cs2, hB2, hz2, hlow, -, -⟩ := Blk.setCells (List.replicate 1 (.chan none)) (n - 1) hB1
  have HE : Hid (∃ cs', Blk (W1.setCells b (n - 1) (List.replicate 1 (.chan none))) b cs' 25 ∧ cs'.size = n ∧ ∀ i, i < n - 1 → cs'[i]? = cs[i + 1]?) :=
    ⟨cs2, hB2, by omega, fun i hi => by rw [hlow i hi]; have := hin i (by omega) (by omega); simp at this; rw [this, hget]⟩
  have HF : Hid (Fr (fun x => x = b) w (W1.setCells b (n - 1) (List.replicate 1 (.chan none)))) := Fr.setCells (S := fun x => x = b) rfl _ _ hF1
  clear hW1 hB0 hB1 hF1 hB2 hlow hz hz2 hin hout hget hnews hlen hone hb hn
  have a1 : (1 : Int) ≤ (n : Int) := by omega
  have a2 : n - (n - 1) = 1 := by omega
  have a3 : (n : Int) - ((n - 1 : Nat) : Int) = 1 := by omega
  go_enter Yba.func35, Yba.ntmps35
  go_wp2_with fail
  go_region_law (refine step_append_room rfl (.tmp 22) (.tmp 25) 24 rfl 25 i0 1 Yba.underlying24 hi0 hz1 b 0 0 n (by simp [Act.eval, Act.put]) A (n - 1) (n - 1) news (by simp [Act.eval, Act.put]) s1.out hsrc.out s2.out (by omega) s3.out ?_; rw [← hW.out])
  go_wp2
  go_ret
  refine ⟨by simp, HE.out, HF.out⟩
end Go.Proofs.Ybulkefvs
