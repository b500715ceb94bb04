/-
  The told and tied card of LawS6608BWhole, proved: the variable's cell out of the listed datum; a world that meets it; the row; the card by the builder's call.
-/
import Derived.Test.YbulkefveFmtRows
import Derived.Test.YbulkefveFmtTie
import Derived.Test.YbulkefveFmtCards
import Derived.Test.YbulkefveFmtLaw
import Derived.ProofKit
import Derived.OpenShut
import Derived.ShutString
import Derived.LaidLaws
import Derived.LaidHandle
import Derived.SizedLaws
import Derived.Stop.Joined
import Derived.Stop.JoinedAt
import Derived.Stop.JoinedTold
import Derived.SevenTiedAt
import Derived.Below
namespace Go.Proofs.YbulkefveFmt.lawS6608BWhole
open Go.ChangeShapes Go.WideShapes Go.ChangeAt Go.RowKit Go.Extern.Stop Go.Stop Go.Extern
open Go.ChangeMaps (open_string shut_string)

theorem own : ownKnob Ybaf.prog.godebug = none := by kernel_rfl
theorem et : Ybaf.prog.globalNamed "errors.errorType" = some 0 := by kernel_rfl
theorem rows26 : ((List.range 195).filter fun t => Ybaf.prog.rowNamed t [101, 114, 114, 111, 114]) = [26] := by kernel_rfl
theorem size : Ybaf.prog.types.size = 195 := by kernel_rfl

/-- What the listed datum gives the walk: the variable's one cell. -/
theorem handle_of_laid {W : World} (h : laidMetH Ybaf.prog Rows.lawS6608BWholeRow.laid W) : W.cell? ⟨0, 0, none⟩ = some (.iface 97 (.agg #[.pointer (some ⟨16, 26, none⟩)])) := by
  have h' : laidMet Ybaf.prog [] W ∧ handlesMet Ybaf.prog Rows.lawS6608BWholeRow.laid W := h
  obtain ⟨name, u, ty, e1, e2, e3, e4, e5⟩ := h'.2 _ (List.mem_singleton.2 rfl)
  have en : name = [101, 114, 114, 111, 114] := (Option.some.inj e1).symm
  subst en
  obtain rfl : u = 97 := Option.some.inj (e2.symm.trans (by kernel_rfl))
  have hm : ty ∈ (List.range 195).filter fun t => Ybaf.prog.rowNamed t [101, 114, 114, 111, 114] := List.mem_filter.2 ⟨List.mem_range.2 (by rw [← size]; exact e3), e4⟩
  rw [rows26] at hm
  obtain rfl := List.mem_singleton.1 hm
  have hh : typeHandle Ybaf.prog 26 = .pointer (some ⟨16, 26, none⟩) := by kernel_rfl
  rw [hh] at e5
  simpa using World.var?_cell et e5 0

/-- One start that fits: the settled world, the variable's cell laid; six empty strings and 0. -/
theorem start (os : Os) {H : Type} (enc : TypeId × Value → H) (F : Stop.Interp) :
    ∃ (w : World) (tape : Tape) (i : Input), w.os = os ∧ (w.forCall tape i).Shaped Ybaf.checked.prog ∧ i.vars = [] ∧ Input.okWide Ybaf.checked.prog (w.forCall tape i) .any w.heap.size 3 i ∧
      (OpenSpec.ofChange Rows.lawS6608BWholeSpec).preRow enc Ybaf.checked.prog Ybaf.f3 Rows.lawS6608BWholeRow.domain false Rows.lawS6608BWholeRow.laid (w.forCall tape i).memory i.args ∧ ({} : Assume).holds Ybaf.checked.prog (lone (Frame.enter Ybaf.checked.prog 3 i.args .normal) [] (w.forCall tape i)) ∧ F.answers tape := by
  refine OpenSpec.witness_stopped_at (enc := enc) (C := Ybaf.checked) (f := 3) (fn := Ybaf.f3) (s := OpenSpec.ofChange Rows.lawS6608BWholeSpec) false
    { World.holding Ybaf.prog os ⟨#[], #[], []⟩ with heap := (World.holding Ybaf.prog os ⟨#[], #[], []⟩).heap.modify 0 fun
      | .cells _ t frozen => .cells #[.iface 97 (.agg #[.pointer (some ⟨16, 26, none⟩)])] t frozen
      | o => o }
    #[.string ⟨#[]⟩, .string ⟨#[]⟩, .string ⟨#[]⟩, .string ⟨#[]⟩, .string ⟨#[]⟩, .string ⟨#[]⟩, .int .u8 0] rfl (by kernel_rfl) (by kernel_rfl) (by kernel_rfl) ?_ F
  exact OpenSpec.preRow_of_cond 8 (x := ([.lit (.string []), .lit (.string []), .lit (.string []), .lit (.string []), .lit (.string []), .lit (.string []), .lit (.int .u8 0)], [], [])) (by kernel_rfl) (by kernel_rfl) (fun k hk => by cases hk) (by kernel_rfl)
    (laidMetH_of_parts (laidMet_nil _ _) (by kernel_rfl))

/-- The law, whatever the mode. -/
theorem walk (file msg op path op2 path2 : ByteArray) (mode : Int) (w : World) (hg : w.cell? ⟨0, 0, none⟩ = some (.iface 97 (.agg #[.pointer (some ⟨16, 26, none⟩)])))
    (h0 : 0 ≤ mode) (h1 : mode ≤ 255) (hm : msg.size < 140737488355328) (ho : op2.size < 140737488355328) (hp : path2.size < 140737488355328) :
    Calls Ybaf.prog 3 #[.string file, .string msg, .string op, .string path, .string op2, .string path2, .int .u8 mode] w fun e w' => e = .returned (.bool true) ∧ Below w.heap.size w w' := by
  have hk : mode % 5 = 0 ∨ mode % 5 = 1 ∨ mode % 5 = 2 ∨ mode % 5 = 3 ∨ mode % 5 = 4 := by omega
  rcases hk with hk | hk | hk | hk | hk
  · exact law0 file msg op path op2 path2 mode w hg h0 h1 hk hm
  · exact law1 file msg op path op2 path2 mode w hg h0 h1 hk hm
  · exact law2 file msg op path op2 path2 mode w hg h0 h1 hk hm
  · exact law3 file msg op path op2 path2 mode w hg h0 h1 hk ho
  · exact law4 file msg op path op2 path2 mode w hg h0 h1 hk hm ho hp

set_option maxRecDepth 100000 in
theorem lifted (os : Os) (started : os.Started) (H : Type) (enc : TypeId × Value → H) :
    ReturnsInTold none {} Ybaf.checked os 3 .any Input.okWide ((OpenSpec.ofChange Rows.lawS6608BWholeSpec).preRow enc Ybaf.prog Ybaf.f3 Rows.lawS6608BWholeRow.domain false Rows.lawS6608BWholeRow.laid)
      (fun F => ((OpenSpec.ofChange Rows.lawS6608BWholeSpec).at F).post enc Ybaf.prog Ybaf.f3 false true false false) (aloneAtReturn Ybaf.prog) nothingAlways := by
  refine returnsInTold_of_row (C := Ybaf.checked) (s := OpenSpec.ofChange Rows.lawS6608BWholeSpec) (by kernel_rfl) own started (by kernel_rfl) Ybaf.func3 (fun F => start os enc F) ?_
  intro F W base args ds gs before _ _ hval0 hW _ _ hsz0 hL _
  have hval : ∀ (j : Nat) t v, Ybaf.f3.params[j]? = some t → args[j]? = some v → Value.okWide Ybaf.prog W .any base t v := hval0
  have hsz : (DataW.weightsEach Ybaf.prog (Ybaf.f3.params.toList ++ (OpenSpec.ofChange Rows.lawS6608BWholeSpec).bare.plain.varTypes Ybaf.prog) (ds ++ gs)).all (· ≤ reachBytes) = true := hsz0
  have hW' := hW
  obtain ⟨p, q, hA0, hV, rfl, hfz, hnd⟩ := hW
  have hA : DataW.TrodAll enc Ybaf.prog W 0 (fun _ => true) true Ybaf.f3.params.toList args.toList ds p := hA0
  rw [Ybaf.params3] at hA hval hsz
  obtain ⟨v0, vs0, d0, ds0, p0, q0, hargs, rfl, rfl, h0, r0⟩ := trodAll_cons hA
  obtain ⟨v1, vs1, d1, ds1, p1, q1, rfl, rfl, rfl, h1, r1⟩ := trodAll_cons r0
  obtain ⟨v2, vs2, d2, ds2, p2, q2, rfl, rfl, rfl, h2, r2⟩ := trodAll_cons r1
  obtain ⟨v3, vs3, d3, ds3, p3, q3, rfl, rfl, rfl, h3, r3⟩ := trodAll_cons r2
  obtain ⟨v4, vs4, d4, ds4, p4, q4, rfl, rfl, rfl, h4, r4⟩ := trodAll_cons r3
  obtain ⟨v5, vs5, d5, ds5, p5, q5, rfl, rfl, rfl, h5, r5⟩ := trodAll_cons r4
  obtain ⟨v6, vs6, d6, ds6, p6, q6, rfl, rfl, rfl, h6, r6⟩ := trodAll_cons r5
  obtain ⟨rfl, rfl, rfl⟩ := trodAll_nil r6
  obtain rfl : args = #[v0, v1, v2, v3, v4, v5, v6] := by cases args; simp_all
  obtain ⟨rfl, rfl⟩ := trodVars_none hV
  obtain ⟨a0, rfl, rfl, rfl, w0⟩ := open_string Ybaf.underlying9 (hval 0 9 v0 rfl rfl) h0
  obtain ⟨a1, rfl, rfl, rfl, w1⟩ := open_string Ybaf.underlying9 (hval 1 9 v1 rfl rfl) h1
  obtain ⟨a2, rfl, rfl, rfl, w2⟩ := open_string Ybaf.underlying9 (hval 2 9 v2 rfl rfl) h2
  obtain ⟨a3, rfl, rfl, rfl, w3⟩ := open_string Ybaf.underlying9 (hval 3 9 v3 rfl rfl) h3
  obtain ⟨a4, rfl, rfl, rfl, w4⟩ := open_string Ybaf.underlying9 (hval 4 9 v4 rfl rfl) h4
  obtain ⟨a5, rfl, rfl, rfl, w5⟩ := open_string Ybaf.underlying9 (hval 5 9 v5 rfl rfl) h5
  obtain ⟨a6, rfl, rfl, rfl, w6⟩ := open_int Ybaf.underlying5 (hval 6 5 v6 rfl rfl) h6
  clear hA0 hval0 hsz0
  have hr := reachBytes_lt
  have s1 : a1.size < 140737488355328 := by
    have := sized_string hsz (j := 1) (t := 9) rfl rfl
    simp at this; omega
  have s4 : a4.size < 140737488355328 := by
    have := sized_string hsz (j := 4) (t := 9) rfl rfl
    simp at this; omega
  have s5 : a5.size < 140737488355328 := by
    have := sized_string hsz (j := 5) (t := 9) rfl rfl
    simp at this; omega
  have b6 : 0 ≤ a6 ∧ a6 ≤ 255 := by
    simp [Lit.wf, IntKind.min, IntKind.max, IntKind.signed, IntKind.bits] at w6
    exact w6
  refine (walk a0 a1 a2 a3 a4 a5 a6 W (handle_of_laid hL) b6.1 b6.2 s1 s4 s5).mono fun e W' ⟨he, bel⟩ => ?_
  subst he
  exact ⟨_, rfl, _, _, _, [], _, [], hW', trodAll_mk1 (shut_bool Ybaf.underlying4 _), (trodAll_cons_mk (shut_string Ybaf.underlying9 w0) (trodAll_cons_mk (shut_string Ybaf.underlying9 w1) (trodAll_cons_mk (shut_string Ybaf.underlying9 w2) (trodAll_cons_mk (shut_string Ybaf.underlying9 w3) (trodAll_cons_mk (shut_string Ybaf.underlying9 w4) (trodAll_cons_mk (shut_string Ybaf.underlying9 w5) (trodAll_cons_mk (shut_int Ybaf.underlying5 w6) trodAll_mk0))))))), rfl, bel.frame _, fun h => by cases h⟩

theorem stops : Rows.lawS6608BWholeRow.stops = Ybaf.pinned.checked.prog.stops := by kernel_rfl
theorem knobs : Ybaf.pinned.checked.prog.stopKnobs = [] := by kernel_rfl
theorem silent (os : Os) : Stop.quiet Ybaf.pinned.checked.prog os := by
  intro k hk
  rw [knobs] at hk
  cases hk

/-- ████ THE STATEMENT ████ -/
theorem proved : Rows.LawS6608BWholeToldSaid :=
  Claim7.holds_of_told_tied_any_at .later 3 Ybaf.f3 _ [] [] _ _ _ [.handle] true (by kernel_rfl) rfl rfl rfl (by kernel_rfl) (by kernel_rfl) rfl ⟨rfl, rfl, rfl, rfl, rfl, rfl, rfl⟩ rfl rfl (by kernel_rfl) (by kernel_rfl) Ybaf.func3 (by kernel_rfl)
    (of_decide_eq_true (by kernel_rfl)) (by unfold Func.isWrapper; first | (rw [if_pos (by decide +kernel)]; kernel_rfl) | (rw [if_neg (by decide +kernel)]; exact ⟨rfl, rfl⟩)) stops rfl knobs.symm (by kernel_rfl)
    (by kernel_rfl) (by kernel_rfl) (by kernel_rfl) (by kernel_rfl) (by kernel_rfl) (by kernel_rfl) (by kernel_rfl) (by kernel_rfl) (by kernel_rfl) rfl (by kernel_rfl) rfl rfl
    rfl rfl
    rfl (by kernel_rfl) (by kernel_rfl) (by kernel_rfl) (by decide) (by kernel_rfl) lawS6608BWhole_row_tie
    (OpenClaim.moreEntering_of (by kernel_rfl) (by kernel_rfl) (by kernel_rfl) (by kernel_rfl) (by kernel_rfl) (by kernel_rfl) (by kernel_rfl) (by kernel_rfl) (by kernel_rfl) (by kernel_rfl))
    ⟨_, WideRow.started_initial, silent _⟩
    (fun os started _ H enc _ => lifted os started H enc)
end Go.Proofs.YbulkefveFmt.lawS6608BWhole
