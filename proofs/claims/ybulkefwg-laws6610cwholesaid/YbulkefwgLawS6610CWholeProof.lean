/-
  The proof of Rows.LawS6610CWholeSaid: the frame written by the kit's skeleton tool; the walk by the texts Ybulkefwg.
-/
import Derived.Test.YbulkefwgRows
import Derived.Test.YbulkefwgLaw
import Derived.WalkKit
import Derived.ProofKit
import Derived.OpenShut
import Derived.ShutString
import Derived.ChangeOld
import Derived.Below
namespace Go.Proofs.Ybulkefwg.lawS6610CWhole
open Go.ChangeShapes Go.WideShapes Go.ChangeAt Go.RowKit
open Go.ChangeMaps (open_string shut_string)
set_option linter.unusedVariables false

theorem own : ownKnob Yba.prog.godebug = none := by kernel_rfl
theorem laidOut : laidOutB Yba.prog = true := by kernel_rfl

/-- WHAT THE WALK IS TOLD OF A SLICE OF INTEGERS THAT CAME IN: it is nil; or it leads to a row of 'cap' cells, the numbers 'zs' (the first 'len' are its elements, the rest its spare room), each fitting its kind. -/
def IsRow (k : IntKind) (w : World) (a : Option Addr) (len cap : Nat) (zs : List Int) : Prop :=
  (a = none ∧ len = 0 ∧ cap = 0 ∧ zs = []) ∨
  ∃ x, a = some x ∧ len ≤ cap ∧ cap ≤ maxLen ∧ zs.length = cap ∧ (∀ i, i < zs.length → w.cell? (x.add i) = some (.int k (zs.getD i 0))) ∧ ∀ n ∈ zs, (Lit.int k n).wf = true

/-- A row that came in, its numbers as natural numbers. -/
theorem row_of {k : IntKind} {B : Nat} (hk : ∀ n : Int, (Lit.int k n).wf = true → 0 ≤ n ∧ n < B) {w : World} {a : Option Addr} {len cap : Nat} {zs : List Int} (h : IsRow k w a len cap zs) :
    ∃ g : Nat → Nat, (∀ i, i < len → g i < B) ∧ (len = 0 ∨ ∃ b o, a = some ⟨b, o, none⟩ ∧ (∀ i, i < len → w.cell? ⟨b, o + i, none⟩ = some (.int k (g i))) ∧ ∀ i, i < len → g i < B) := by
  rcases h with ⟨_, h0, _, _⟩ | ⟨x, rfl, hlc, _, hz, hcell, hwf⟩
  · exact ⟨fun _ => 0, fun i hi => by omega, .inl h0⟩
  · have hg : ∀ i, i < len → 0 ≤ zs.getD i 0 ∧ zs.getD i 0 < B := fun i hi => by
      have hi' : i < zs.length := by omega
      rw [List.getD_eq_getElem?_getD, List.getElem?_eq_getElem hi']
      exact hk _ (hwf _ (List.getElem_mem hi'))
    have hlt : ∀ i, i < len → (zs.getD i 0).toNat < B := fun i hi => by have := hg i hi; omega
    refine ⟨fun i => (zs.getD i 0).toNat, hlt, ?_⟩
    by_cases h0 : len = 0
    · exact .inl h0
    · right
      obtain ⟨b, o, sp⟩ := x
      have hsp : sp = none := by
        have := hcell 0 (by omega)
        cases sp with
        | none => rfl
        | some s =>
          exfalso
          unfold World.cell? Addr.add at this
          split at this
          · simp at this
          · cases this
      subst hsp
      refine ⟨b, o, rfl, fun i hi => ?_, hlt⟩
      have := hcell i (by omega)
      have h1 := hg i hi
      rw [show ((zs.getD i 0).toNat : Int) = zs.getD i 0 from by omega]
      have hadd : (⟨b, o, none⟩ : Addr).add i = ⟨b, o + i, none⟩ := by unfold Addr.add; split <;> simp_all
      rw [hadd] at this
      exact this

set_option maxHeartbeats 400000 in
theorem early (a0 : Option Addr) (len cap : Nat) (t : ByteArray) (w : World) (h : 1048576 < len ∨ 1048576 < t.size) :
    Calls Yba.prog 3 #[.slice a0 len cap, .string t] w fun e w' => e = .returned (.bool true) ∧ Below w.heap.size w w' := by
  by_cases h1 : 1048576 < len
  · have d1 : decide ((1048576 : Int) < (len : Int)) = true := by simp; omega
    go_enter Yba.func3, Yba.ntmps3
    go_wp2
    go_ret
    exact ⟨rfl, Below.refl _ _⟩
  · have d1 : decide ((1048576 : Int) < (len : Int)) = false := by simp; omega
    have d2 : decide ((1048576 : Int) < (t.size : Int)) = true := by simp; omega
    go_enter Yba.func3, Yba.ntmps3
    go_wp2
    go_ret
    exact ⟨rfl, Below.refl _ _⟩

theorem walk (a0 : Option Addr) (len0 cap0 : Nat) (z0 : List Int) (a1 : ByteArray) (w : World) (w0 : IsRow .u8 w a0 len0 cap0 z0) (_w1 : a1.size ≤ maxLen) :
    Calls Yba.prog 3 #[.slice a0 len0 cap0, .string a1] w fun e w' => e = .returned (.bool true) ∧ Below w.heap.size w w' := by
  by_cases h : 1048576 < len0 ∨ 1048576 < a1.size
  · exact early a0 len0 cap0 a1 w h
  · obtain ⟨g, _, H⟩ := row_of (B := 256) (fun n hn => by
      simp [Lit.wf, IntKind.min, IntKind.max, IntKind.signed, IntKind.bits] at hn
      omega) w0
    exact law a0 len0 cap0 a1 w (by omega) (by omega) g H

/-! ### THE ROW's STEP: WRITTEN OUT: LEAVE IT -/
set_option maxRecDepth 100000 in
theorem lifted (os : Os) (started : os.Started) (H : Type) (enc : TypeId × Value → H) :
    ReturnsInHanded {} Yba.checked os 3 .any (Rows.lawS6610CWholeSpec.pre6 enc Yba.prog Yba.f3 Rows.lawS6610CWholeRow.domain false) (Rows.lawS6610CWholeSpec.post enc Yba.prog Yba.f3 false true false false) := by
  refine returnsInHanded_of_change (C := Yba.checked) own started (by kernel_rfl) Yba.func3
    (ChangeSpec.witness6 (enc := enc) (C := Yba.checked) false ⟨#[], #[.slice none 0 0, .string ByteArray.empty], []⟩ 8 (by kernel_rfl) (by kernel_rfl) (by kernel_rfl) (by kernel_rfl)) ?_
  intro W base args ds gs before hval0 hW hcnd _
  have hval : ∀ (j : Nat) t v, Yba.f3.params[j]? = some t → args[j]? = some v → Value.okWide Yba.prog W .any base t v := hval0
  have hW' := hW
  obtain ⟨p, q, hA0, hV, rfl, hfz, hnd⟩ := hW
  have hA : DataW.TrodAll enc Yba.prog W 0 (fun _ => true) true Yba.f3.params.toList args.toList ds p := hA0
  rw [Yba.params3] at hA hval
  obtain ⟨v0, vs0, d0, ds0, p0, q0, hargs, rfl, rfl, h0, r0⟩ := trodAll_cons hA
  obtain ⟨v1, vs1, d1, ds1, p1, q1, rfl, rfl, rfl, h1, r1⟩ := trodAll_cons r0
  obtain ⟨rfl, rfl, rfl⟩ := trodAll_nil r1
  obtain rfl : args = #[v0, v1] := by cases args; simp_all
  obtain ⟨rfl, rfl⟩ := trodVars_none hV
  obtain ⟨a0, len0, cap0, rfl⟩ := okWide_slice Yba.underlying22 (hval 0 22 v0 rfl rfl)
  have k0 := h0
  have lt0 : ∀ x ∈ p0, x.block < W.heap.size := by obtain ⟨m, hm⟩ := k0; exact DataW.trod_lt m _ _ _ hm
  obtain ⟨z0, w0⟩ : ∃ zs, IsRow .u8 W a0 len0 cap0 zs := by
    obtain ⟨fuel, hf⟩ := h0
    rcases open_ints Yba.underlying22 Yba.underlying5 (by kernel_rfl) hf with ⟨hcs, _⟩ | ⟨x, l, c, zs, hcs, _, hl, hm, hz, _, hcell, hwz⟩
    · simp [Value.cells] at hcs
      obtain ⟨rfl, rfl, rfl⟩ := hcs
      exact ⟨[], .inl ⟨rfl, rfl, rfl, rfl⟩⟩
    · simp [Value.cells] at hcs
      obtain ⟨rfl, rfl, rfl⟩ := hcs
      exact ⟨zs, .inr ⟨_, rfl, hl, hm, by simpa using hz, hcell, hwz⟩⟩
  obtain ⟨a1, rfl, rfl, rfl, w1⟩ := open_string Yba.underlying9 (hval 1 9 v1 rfl rfl) h1
  clear hA0 hval0
  refine (walk a0 len0 cap0 z0 a1 W w0 w1).mono fun e W' ⟨he, bel⟩ => ?_
  subst he
  exact ⟨_, rfl, _, _, _, [], _, [], hW', trodAll_mk1 (shut_bool Yba.underlying4 _), (trodAll_cons_mk (Below.trod laidOut (by kernel_rfl) (of_decide_eq_true (by kernel_rfl)) k0 bel lt0) (trodAll_cons_mk (shut_string Yba.underlying9 w1) trodAll_mk0)), rfl, bel.frame _, fun h => by cases h⟩

theorem over : Rows.lawS6610CWholeRow.holds Yba.pinned (OpenSpec.ofChange Rows.lawS6610CWholeSpec) :=
  OpenClaim.holds_of_wide 3 Yba.f3 rfl rfl rfl rfl rfl rfl rfl ⟨rfl, rfl, rfl, rfl, rfl⟩ rfl rfl rfl rfl rfl (by kernel_rfl) Yba.func3 (by kernel_rfl)
    (of_decide_eq_true (by kernel_rfl)) (by unfold Func.isWrapper; first | (rw [if_pos (by decide +kernel)]; kernel_rfl) | (rw [if_neg (by decide +kernel)]; exact ⟨rfl, rfl⟩))
    (fun os started H enc _ => lifted os started H enc)

/-- ████ THE STATEMENT ████ -/
theorem proved : Rows.LawS6610CWholeSaid := over
end Go.Proofs.Ybulkefwg.lawS6610CWhole
