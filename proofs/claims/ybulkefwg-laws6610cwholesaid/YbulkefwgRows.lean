/-
  No cell of these rows narrows 'for every input' (looked for: loops, veiled, ifaces, maps, wideKeys, modest, calm, conditions, laid).
  DERIVED. THE GIVEN ROWS OF THIS SEAT. 1 by the template 'for every input the law returns true; each argument reads behind the call as it read before'; 0 by the template 'total and deterministic' (their statements: YbulkefwgTotals.lean).
  GIVEN WITH THE SEED: the statements are not yours to turn. If you find one false, say at which input.
  Laid BY PROGRAM, IN A SANDBOX (cutbox-rows.mjs): the forced cells as the released guide's own fill.sh prints them over the translation 145614d6f01d390a… (all of the seat's roots in one cut). By AI agents, Wed Nov 11 2026. No macro, syntax, notation, axiom, sorry.
-/
import Derived.Test.YbulkefwgChecked
import GoSem.Claim
import GoSem.ClaimJoined
import GoSem.ClaimMapViews
import Derived.JoinedTies
import Derived.KernelRfl
namespace Go.Proofs.Ybulkefwg
/- THE CELL 'sum', in the pinned program and in every row, IS THE sha256 OF THE DUMP (.gsa) THAT YbulkefwgProg.lean LOADS. Nothing in Lean hashes anything: it is a label: what it is worth is what the hold of that sum in a sandbox is worth. -/
noncomputable def Yba.pinned : Pinned := { name := "ybulkefwg", sum := "145614d6f01d390a1f475a49fe33a7ab57eb0614e8ed84269211f6ba667f25ca", checked := Yba.checked }
namespace Rows
def none {H : Type} : Left H := { results := [], args := [] }

/-- 'deltawire.LawS6610CWhole': WHATEVER THE INPUT: true; the input reads as it did. -/
def lawS6610CWholeSpec : ChangeSpec := { name := "lawS6610CWhole", fn := fun _ => fun
  | [d1, d2] => { results := [.lit (.bool true)], args := [d1, d2] }
  | _ => none }
def lawS6610CWholeRow : OpenClaim := { program := "ybulkefwg", sum := "145614d6f01d390a1f475a49fe33a7ab57eb0614e8ed84269211f6ba667f25ca", func := "example.com/deltawire/deltawire.LawS6610CWhole", spec := "lawS6610CWhole", apart := false }
def LawS6610CWholeSaid : Prop := lawS6610CWholeRow.holds Yba.pinned (OpenSpec.ofChange lawS6610CWholeSpec)

/-- ITS FALSE NEIGHBOUR: 'it returns false'. Refute it at one input. -/
def lawS6610CWholeWrong : ChangeSpec := { name := "lawS6610CWhole", fn := fun _ => fun
  | [d1, d2] => { results := [.lit (.bool false)], args := [d1, d2] }
  | _ => none }
def LawS6610CWholeWrongFalsely : Prop := lawS6610CWholeRow.holds Yba.pinned (OpenSpec.ofChange lawS6610CWholeWrong)

end Rows
end Go.Proofs.Ybulkefwg
