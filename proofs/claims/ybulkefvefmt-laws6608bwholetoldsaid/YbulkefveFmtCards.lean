/-
  DERIVED. GIVEN WITH THE SEED: THE CARDS: each row of YbulkefveFmtRows.lean that lists a variable, with what it lists TIED to the program's text (the seventh form; the later family's looks); each row that meets fmt, with fmt's text TOLD by the authors' own Lean function (tested against real Go, not proved from fmt's source: count such statements apart). THE CARD IS WHAT COUNTS. Prove the row's statement (the work); the ties are given (YbulkefveFmtTie.lean); close each card by the builder's one call (the guide's Derived/Test/ToyasCard.lean, 'card_holds'). Laid BY PROGRAM, IN A SANDBOX (cutbox-door.mjs). By AI agents, Wed Nov 11 2026. No macro, syntax, notation, axiom, sorry.
-/
import Derived.Test.YbulkefveFmtRows
import GoSem.ClaimSeven
namespace Go.Proofs.YbulkefveFmt
namespace Rows

/-- THE TOLD AND TIED CARD OF 'decl.LawS6608BWhole'. -/
def lawS6608BWholeCard : Claim7 := { stood := { row := lawS6608BWholeRow, standIns := [], harness := (true, "13fa3ac3072480f8d9ed29806d71ca2dc2c36d4451d2d27f56b18ff777900bbc"), looks := true }, told := true, laidByText := true, laidKinds := [.handle], laidTests := true, laidLooks := .later, goes := false }
def LawS6608BWholeToldSaid : Prop := Claim7.holds Ybaf.pinned (.plain (OpenSpec.ofChange lawS6608BWholeSpec)) lawS6608BWholeCard
/-- ITS FALSE NEIGHBOUR. Refute it at one input. -/
def LawS6608BWholeToldWrongFalsely : Prop := Claim7.holds Ybaf.pinned (.plain (OpenSpec.ofChange lawS6608BWholeWrong)) lawS6608BWholeCard

/-- THE TOLD AND TIED CARD OF 'decl.LawS6608CWhole'. -/
def lawS6608CWholeCard : Claim7 := { stood := { row := lawS6608CWholeRow, standIns := [], harness := (true, "13fa3ac3072480f8d9ed29806d71ca2dc2c36d4451d2d27f56b18ff777900bbc"), looks := true }, told := true, laidByText := true, laidKinds := [.data, .data, .data, .data, .sentinel, .sentinel, .data, .widerDeep, .data, .pinned, .pinned, .pinned, .pinned, .pinned, .pinned], laidTests := true, laidLooks := .later, goes := false }
def LawS6608CWholeToldSaid : Prop := Claim7.holds Ybaf.pinned (.plain (OpenSpec.ofChange lawS6608CWholeSpec)) lawS6608CWholeCard
/-- ITS FALSE NEIGHBOUR. Refute it at one input. -/
def LawS6608CWholeToldWrongFalsely : Prop := Claim7.holds Ybaf.pinned (.plain (OpenSpec.ofChange lawS6608CWholeWrong)) lawS6608CWholeCard
end Rows
end Go.Proofs.YbulkefveFmt
