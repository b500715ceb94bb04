/-
  No cell of these rows narrows 'for every input' (looked for: loops, veiled, ifaces, maps, wideKeys, modest, calm, conditions, laid).
  DERIVED. THE GIVEN ROWS OF THIS SEAT. 2 by the template 'for every input the law returns true; each argument reads behind the call as it read before'; 0 by the template 'total and deterministic' (their statements: YbulkefvsTotals.lean).
  GIVEN WITH THE SEED: the statements are not yours to turn. If you find one false, say at which input.
  Laid BY PROGRAM, IN A SANDBOX (cutbox-rows.mjs): the forced cells as the released guide's own fill.sh prints them over the translation 916aa9f74458ee57… (all of the seat's roots in one cut). By AI agents, Wed Nov 11 2026. No macro, syntax, notation, axiom, sorry.
-/
import Derived.Test.YbulkefvsChecked
import GoSem.Claim
import GoSem.ClaimJoined
import GoSem.ClaimMapViews
import Derived.JoinedTies
import Derived.KernelRfl
namespace Go.Proofs.Ybulkefvs
/- THE CELL 'sum', in the pinned program and in every row, IS THE sha256 OF THE DUMP (.gsa) THAT YbulkefvsProg.lean LOADS. Nothing in Lean hashes anything: it is a label: what it is worth is what the hold of that sum in a sandbox is worth. -/
noncomputable def Yba.pinned : Pinned := { name := "ybulkefvs", sum := "916aa9f74458ee57658f247d7fa277dc045646734de75a5849dbd2290a2bc564", checked := Yba.checked }
namespace Rows
def none {H : Type} : Left H := { results := [], args := [] }

/-- 'magnetite.LawS6609BWhole': WHATEVER THE INPUT: true; the input reads as it did. -/
def lawS6609BWholeSpec : ChangeSpec := { name := "lawS6609BWhole", fn := fun _ => fun
  | [d1, d2, d3, d4, d5, d6, d7, d8, d9, d10, d11] => { results := [.lit (.bool true)], args := [d1, d2, d3, d4, d5, d6, d7, d8, d9, d10, d11] }
  | _ => none }
def lawS6609BWholeRow : OpenClaim := { program := "ybulkefvs", sum := "916aa9f74458ee57658f247d7fa277dc045646734de75a5849dbd2290a2bc564", func := "example.com/magnetite/magnetite.LawS6609BWhole", spec := "lawS6609BWhole", inPlace := ["(*internal/sync.Mutex).Lock", "internal/race.Disable", "sync/atomic.CompareAndSwapInt32", "internal/race.Enable", "internal/race.Acquire", "(*internal/sync.Mutex).lockSlow", "internal/sync.runtime_canSpin", "internal/sync.runtime_doSpin", "internal/sync.throw", "internal/sync.runtime_nanotime", "internal/sync.runtime_SemacquireMutex", "sync/atomic.AddInt32", "(*internal/sync.Mutex).Unlock", "internal/race.ReleaseMerge", "(*internal/sync.Mutex).unlockSlow", "internal/sync.fatal", "internal/sync.runtime_Semrelease"], plainKeys := false, apart := false }
def LawS6609BWholeSaid : Prop := lawS6609BWholeRow.holds Yba.pinned (OpenSpec.ofChange lawS6609BWholeSpec)

/-- ITS FALSE NEIGHBOUR: 'it returns false'. Refute it at one input. -/
def lawS6609BWholeWrong : ChangeSpec := { name := "lawS6609BWhole", fn := fun _ => fun
  | [d1, d2, d3, d4, d5, d6, d7, d8, d9, d10, d11] => { results := [.lit (.bool false)], args := [d1, d2, d3, d4, d5, d6, d7, d8, d9, d10, d11] }
  | _ => none }
def LawS6609BWholeWrongFalsely : Prop := lawS6609BWholeRow.holds Yba.pinned (OpenSpec.ofChange lawS6609BWholeWrong)

/-- 'utp.LawS6609CWhole': WHATEVER THE INPUT: true; the input reads as it did. -/
def lawS6609CWholeSpec : ChangeSpec := { name := "lawS6609CWhole", fn := fun _ => fun
  | [d1, d2, d3, d4, d5, d6, d7] => { results := [.lit (.bool true)], args := [d1, d2, d3, d4, d5, d6, d7] }
  | _ => none }
def lawS6609CWholeRow : OpenClaim := { program := "ybulkefvs", sum := "916aa9f74458ee57658f247d7fa277dc045646734de75a5849dbd2290a2bc564", func := "example.com/magnetite/magnetite/utp.LawS6609CWhole", spec := "lawS6609CWhole", inPlace := ["time.runtimeNano", "time.newTimer", "time.stopTimer", "time.resetTimer"], unfollowed := true, recurses := true, plainKeys := false, apart := false }
def LawS6609CWholeSaid : Prop := lawS6609CWholeRow.holds Yba.pinned (OpenSpec.ofChange lawS6609CWholeSpec)

/-- ITS FALSE NEIGHBOUR: 'it returns false'. Refute it at one input. -/
def lawS6609CWholeWrong : ChangeSpec := { name := "lawS6609CWhole", fn := fun _ => fun
  | [d1, d2, d3, d4, d5, d6, d7] => { results := [.lit (.bool false)], args := [d1, d2, d3, d4, d5, d6, d7] }
  | _ => none }
def LawS6609CWholeWrongFalsely : Prop := lawS6609CWholeRow.holds Yba.pinned (OpenSpec.ofChange lawS6609CWholeWrong)

end Rows
end Go.Proofs.Ybulkefvs
