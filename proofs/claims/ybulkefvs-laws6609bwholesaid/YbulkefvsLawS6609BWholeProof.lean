/-
  The proof of Rows.LawS6609BWholeSaid: the frame written by the kit's skeleton tool, its builder the one that hands on the reach; the walk by the texts Ybulkefvs.
-/
import Derived.Test.YbulkefvsRows
import Derived.Test.YbulkefvsLaw
import Derived.SizedLaws
import Derived.WalkKit
import Derived.ProofKit
import Derived.OpenShut
import Derived.ShutString
import Derived.ChangeOld
import Derived.Below
namespace Go.Proofs.Ybulkefvs.lawS6609BWhole
open Go.ChangeShapes Go.WideShapes Go.ChangeAt Go.RowKit
open Go.ChangeMaps (open_string shut_string)
set_option linter.unusedVariables false

theorem own : ownKnob Yba.prog.godebug = none := by kernel_rfl
theorem laidOut : laidOutB Yba.prog = true := by kernel_rfl

/-- WHAT THE WALK IS TOLD OF A SLICE OF INTEGERS THAT CAME IN: it is nil; or it leads to a row of 'cap' cells, the numbers 'zs' (the first 'len' are its elements, the rest its spare room), each fitting its kind. -/
def IsRow (k : IntKind) (w : World) (a : Option Addr) (len cap : Nat) (zs : List Int) : Prop :=
  (a = none ∧ len = 0 ∧ cap = 0 ∧ zs = []) ∨
  ∃ x, a = some x ∧ len ≤ cap ∧ cap ≤ maxLen ∧ zs.length = cap ∧ (∀ i, i < zs.length → w.cell? (x.add i) = some (.int k (zs.getD i 0))) ∧ ∀ n ∈ zs, (Lit.int k n).wf = true

theorem lt_of_cell {w : World} {a : Addr} {v : Value} (h : w.cell? a = some v) : a.block < w.heap.size := by
  rcases Nat.lt_or_ge a.block w.heap.size with k | k
  · exact k
  · simp [World.cell?, Array.getElem?_eq_none k] at h

theorem walk (a0 : Int) (a1 : Bool) (a2 : Int) (a3 : Int) (a4 : Bool) (a5 : Bool) (a6 : Int) (a7 : Int) (a8 : Int) (a9 : Bool) (a10 : Option Addr) (len10 cap10 : Nat) (z10 : List Int) (w : World) (w2 : (Lit.int .u16 a2).wf = true) (w10 : IsRow .u8 w a10 len10 cap10 z10) (hl10 : len10 ≤ 140737488355328) :
    Calls Yba.prog 3 #[.int .i64 a0, .bool a1, .int .u16 a2, .int .i64 a3, .bool a4, .bool a5, .int .i64 a6, .int .i64 a7, .int .i64 a8, .bool a9, .slice a10 len10 cap10] w fun e w' => e = .returned (.bool true) ∧ Below w.heap.size w w' := by
  have b2 : 0 ≤ a2 ∧ a2 ≤ 65535 := by
    simp [Lit.wf, IntKind.min, IntKind.max, IntKind.signed, IntKind.bits] at w2
    exact w2
  obtain ⟨n, rfl⟩ := Int.eq_ofNat_of_zero_le b2.1
  rcases w10 with ⟨rfl, rfl, rfl, rfl⟩ | ⟨x, rfl, hl, _, hz, hc, _⟩
  · exact law a0 a1 n a3 a4 a5 a6 a7 a8 a9 none 0 0 w (by omega) (by omega) #[] rfl (fun i u h => by simp at h) (fun x h => by cases h) (fun _ => ⟨rfl, rfl⟩)
  · have hget : ∀ (j : Nat) (v : Value), ((z10.take len10).map (Value.int .u8)).toArray[j]? = some v → j < len10 ∧ v = .int .u8 (z10.getD j 0) := by
      intro j v h
      rw [List.getElem?_toArray, List.getElem?_map, List.getElem?_take] at h
      by_cases hj : j < len10
      · rw [if_pos hj, List.getElem?_eq_getElem (by omega)] at h
        refine ⟨hj, ?_⟩
        rw [List.getD_eq_getElem?_getD, List.getElem?_eq_getElem (by omega)]
        simpa using h.symm
      · rw [if_neg hj] at h
        simp at h
    refine law a0 a1 n a3 a4 a5 a6 a7 a8 a9 (some x) len10 cap10 w (by omega) hl10 ((z10.take len10).map (Value.int .u8)).toArray ?_ ?_ ?_ (fun h => by cases h)
    · simp
      omega
    · intro i u h
      rw [(hget i u h).2]
      rfl
    · intro y hy j v h
      obtain rfl : y = x := (Option.some.inj hy).symm
      have h2 := hc j (by have := (hget j v h).1; omega)
      rw [← (hget j v h).2] at h2
      refine ⟨?_, h2⟩
      have := lt_of_cell h2
      unfold Addr.add at this
      split at this <;> simpa using this

/-! ### THE ROW's STEP: WRITTEN OUT: LEAVE IT -/
set_option maxRecDepth 100000 in
theorem lifted (os : Os) (started : os.Started) (H : Type) (enc : TypeId × Value → H) :
    ReturnsInHanded {} Yba.checked os 3 .any (Rows.lawS6609BWholeSpec.pre6 enc Yba.prog Yba.f3 Rows.lawS6609BWholeRow.domain false) (Rows.lawS6609BWholeSpec.post enc Yba.prog Yba.f3 false true false false) := by
  refine returnsInHanded_of_change_sized (C := Yba.checked) own started (by kernel_rfl) Yba.func3
    (ChangeSpec.witness6 (enc := enc) (C := Yba.checked) false ⟨#[], #[.int .i64 0, .bool false, .int .u16 0, .int .i64 0, .bool false, .bool false, .int .i64 0, .int .i64 0, .int .i64 0, .bool false, .slice none 0 0], []⟩ 8 (by kernel_rfl) (by kernel_rfl) (by kernel_rfl) (by kernel_rfl)) ?_
  intro W base args ds gs before hval0 hW hcnd hsz0 _
  have hsz : (DataW.weightsEach Yba.prog (Yba.f3.params.toList ++ Rows.lawS6609BWholeSpec.plain.varTypes Yba.prog) (ds ++ gs)).all (· ≤ reachBytes) = true := hsz0
  have hval : ∀ (j : Nat) t v, Yba.f3.params[j]? = some t → args[j]? = some v → Value.okWide Yba.prog W .any base t v := hval0
  have hW' := hW
  obtain ⟨p, q, hA0, hV, rfl, hfz, hnd⟩ := hW
  have hA : DataW.TrodAll enc Yba.prog W 0 (fun _ => true) true Yba.f3.params.toList args.toList ds p := hA0
  rw [Yba.params3] at hA hval hsz
  obtain ⟨v0, vs0, d0, ds0, p0, q0, hargs, rfl, rfl, h0, r0⟩ := trodAll_cons hA
  obtain ⟨v1, vs1, d1, ds1, p1, q1, rfl, rfl, rfl, h1, r1⟩ := trodAll_cons r0
  obtain ⟨v2, vs2, d2, ds2, p2, q2, rfl, rfl, rfl, h2, r2⟩ := trodAll_cons r1
  obtain ⟨v3, vs3, d3, ds3, p3, q3, rfl, rfl, rfl, h3, r3⟩ := trodAll_cons r2
  obtain ⟨v4, vs4, d4, ds4, p4, q4, rfl, rfl, rfl, h4, r4⟩ := trodAll_cons r3
  obtain ⟨v5, vs5, d5, ds5, p5, q5, rfl, rfl, rfl, h5, r5⟩ := trodAll_cons r4
  obtain ⟨v6, vs6, d6, ds6, p6, q6, rfl, rfl, rfl, h6, r6⟩ := trodAll_cons r5
  obtain ⟨v7, vs7, d7, ds7, p7, q7, rfl, rfl, rfl, h7, r7⟩ := trodAll_cons r6
  obtain ⟨v8, vs8, d8, ds8, p8, q8, rfl, rfl, rfl, h8, r8⟩ := trodAll_cons r7
  obtain ⟨v9, vs9, d9, ds9, p9, q9, rfl, rfl, rfl, h9, r9⟩ := trodAll_cons r8
  obtain ⟨v10, vs10, d10, ds10, p10, q10, rfl, rfl, rfl, h10, r10⟩ := trodAll_cons r9
  obtain ⟨rfl, rfl, rfl⟩ := trodAll_nil r10
  obtain rfl : args = #[v0, v1, v2, v3, v4, v5, v6, v7, v8, v9, v10] := by cases args; simp_all
  obtain ⟨rfl, rfl⟩ := trodVars_none hV
  obtain ⟨a0, rfl, rfl, rfl, w0⟩ := open_int Yba.underlying3 (hval 0 3 v0 rfl rfl) h0
  obtain ⟨a1, rfl, rfl, rfl⟩ := open_bool Yba.underlying4 (hval 1 4 v1 rfl rfl) h1
  obtain ⟨a2, rfl, rfl, rfl, w2⟩ := open_int Yba.underlying22 (hval 2 22 v2 rfl rfl) h2
  obtain ⟨a3, rfl, rfl, rfl, w3⟩ := open_int Yba.underlying3 (hval 3 3 v3 rfl rfl) h3
  obtain ⟨a4, rfl, rfl, rfl⟩ := open_bool Yba.underlying4 (hval 4 4 v4 rfl rfl) h4
  obtain ⟨a5, rfl, rfl, rfl⟩ := open_bool Yba.underlying4 (hval 5 4 v5 rfl rfl) h5
  obtain ⟨a6, rfl, rfl, rfl, w6⟩ := open_int Yba.underlying3 (hval 6 3 v6 rfl rfl) h6
  obtain ⟨a7, rfl, rfl, rfl, w7⟩ := open_int Yba.underlying3 (hval 7 3 v7 rfl rfl) h7
  obtain ⟨a8, rfl, rfl, rfl, w8⟩ := open_int Yba.underlying3 (hval 8 3 v8 rfl rfl) h8
  obtain ⟨a9, rfl, rfl, rfl⟩ := open_bool Yba.underlying4 (hval 9 4 v9 rfl rfl) h9
  obtain ⟨a10, len10, cap10, rfl⟩ := okWide_slice Yba.underlying23 (hval 10 23 v10 rfl rfl)
  have k10 := h10
  have lt10 : ∀ x ∈ p10, x.block < W.heap.size := by obtain ⟨m, hm⟩ := k10; exact DataW.trod_lt m _ _ _ hm
  obtain ⟨z10, w10, hl10⟩ : ∃ zs, IsRow .u8 W a10 len10 cap10 zs ∧ len10 ≤ 140737488355328 := by
    obtain ⟨fuel, hf⟩ := h10
    rcases open_ints Yba.underlying23 Yba.underlying5 (by kernel_rfl) hf with ⟨hcs, _⟩ | ⟨x, l, c, zs, hcs, _, hl, hm, hz, hx, hcell, hwz⟩
    · simp [Value.cells] at hcs
      obtain ⟨rfl, rfl, rfl⟩ := hcs
      exact ⟨[], .inl ⟨rfl, rfl, rfl, rfl⟩, by omega⟩
    · simp [Value.cells] at hcs
      obtain ⟨rfl, rfl, rfl⟩ := hcs
      refine ⟨zs, .inr ⟨_, rfl, hl, hm, by simpa using hz, hcell, hwz⟩, ?_⟩
      simp only [Prod.mk.injEq] at hx
      have hr := sized_slice hsz (j := 10) (t := 23) (e := 5) rfl (by rw [hx.1]; rfl) Yba.underlying23
      have hb : Yba.prog.bytesOf 5 = 1 := by kernel_rfl
      have := reachBytes_lt
      simp only [if_true] at hz
      rw [hb] at hr
      simp [lits] at hr
      omega
  clear hA0 hval0 hsz0
  refine (walk a0 a1 a2 a3 a4 a5 a6 a7 a8 a9 a10 len10 cap10 z10 W w2 w10 hl10).mono fun e W' ⟨he, bel⟩ => ?_
  subst he
  exact ⟨_, rfl, _, _, _, [], _, [], hW', trodAll_mk1 (shut_bool Yba.underlying4 _), (trodAll_cons_mk (shut_int Yba.underlying3 w0) (trodAll_cons_mk (shut_bool Yba.underlying4 _) (trodAll_cons_mk (shut_int Yba.underlying22 w2) (trodAll_cons_mk (shut_int Yba.underlying3 w3) (trodAll_cons_mk (shut_bool Yba.underlying4 _) (trodAll_cons_mk (shut_bool Yba.underlying4 _) (trodAll_cons_mk (shut_int Yba.underlying3 w6) (trodAll_cons_mk (shut_int Yba.underlying3 w7) (trodAll_cons_mk (shut_int Yba.underlying3 w8) (trodAll_cons_mk (shut_bool Yba.underlying4 _) (trodAll_cons_mk (Below.trod laidOut (by kernel_rfl) (of_decide_eq_true (by kernel_rfl)) k10 bel lt10) trodAll_mk0))))))))))), rfl, bel.frame _, fun h => by cases h⟩

theorem over : Rows.lawS6609BWholeRow.holds Yba.pinned (OpenSpec.ofChange Rows.lawS6609BWholeSpec) :=
  OpenClaim.holds_of_wide 3 Yba.f3 rfl rfl rfl rfl rfl rfl rfl ⟨rfl, rfl, rfl, rfl, rfl⟩ rfl rfl rfl rfl rfl (by kernel_rfl) Yba.func3 (by kernel_rfl)
    (of_decide_eq_true (by kernel_rfl)) (by unfold Func.isWrapper; first | (rw [if_pos (by decide +kernel)]; kernel_rfl) | (rw [if_neg (by decide +kernel)]; exact ⟨rfl, rfl⟩))
    (fun os started H enc _ => lifted os started H enc)

/-- ████ THE STATEMENT ████ -/
theorem proved : Rows.LawS6609BWholeSaid := over
end Go.Proofs.Ybulkefvs.lawS6609BWhole
