/-
  No cell of these rows narrows 'for every input' (looked for: loops, veiled, ifaces, maps, wideKeys, modest, calm, conditions, laid).
  DERIVED. THE GIVEN ROWS OF THIS SEAT. 3 by the template 'for every input the law returns true; each argument reads behind the call as it read before'; 0 by the template 'total and deterministic' (their statements: YbulkeineTotals.lean).
  GIVEN WITH THE SEED: the statements are not yours to turn. If you find one false, say at which input.
  Laid BY PROGRAM, IN A SANDBOX (cutbox-rows.mjs): the forced cells as the released guide's own fill.sh prints them over the translation 3958f0b68cdc69d8… (all of the seat's roots in one cut). By AI agents, Wed Nov 11 2026. No macro, syntax, notation, axiom, sorry.
-/
import Derived.Test.YbulkeineChecked
import GoSem.Claim
import GoSem.ClaimJoined
import GoSem.ClaimMapViews
import Derived.JoinedTies
import Derived.KernelRfl
namespace Go.Proofs.Ybulkeine
/- THE CELL 'sum', in the pinned program and in every row, IS THE sha256 OF THE DUMP (.gsa) THAT YbulkeineProg.lean LOADS. Nothing in Lean hashes anything: it is a label: what it is worth is what the hold of that sum in a sandbox is worth. -/
noncomputable def Yba.pinned : Pinned := { name := "ybulkeine", sum := "3958f0b68cdc69d8e42042ac1f2bac1b2e6bd7acb37c29d71383523fb474bf38", checked := Yba.checked }
namespace Rows
def none {H : Type} : Left H := { results := [], args := [] }

/-- 'node.LawS6738AWhole': WHATEVER THE INPUT: true; the input reads as it did. -/
def lawS6738AWholeSpec : ChangeSpec := { name := "lawS6738AWhole", fn := fun _ => fun
  | [d1, d2, d3, d4] => { results := [.lit (.bool true)], args := [d1, d2, d3, d4] }
  | _ => none }
def lawS6738AWholeRow : OpenClaim := { program := "ybulkeine", sum := "3958f0b68cdc69d8e42042ac1f2bac1b2e6bd7acb37c29d71383523fb474bf38", func := "example.com/ambit/ambit/pkg/node.LawS6738AWhole", spec := "lawS6738AWhole", inPlace := ["(*internal/sync.Mutex).Lock", "internal/race.Disable", "sync/atomic.CompareAndSwapInt32", "internal/race.Enable", "internal/race.Acquire", "(*internal/sync.Mutex).lockSlow", "internal/sync.runtime_canSpin", "internal/sync.runtime_doSpin", "internal/sync.throw", "internal/sync.runtime_nanotime", "internal/sync.runtime_SemacquireMutex", "sync/atomic.AddInt32", "(*internal/sync.Mutex).Unlock", "internal/race.ReleaseMerge", "(*internal/sync.Mutex).unlockSlow", "internal/sync.fatal", "internal/sync.runtime_Semrelease"], plainKeys := false, apart := false }
def LawS6738AWholeSaid : Prop := lawS6738AWholeRow.holds Yba.pinned (OpenSpec.ofChange lawS6738AWholeSpec)

/-- ITS FALSE NEIGHBOUR: 'it returns false'. Refute it at one input. -/
def lawS6738AWholeWrong : ChangeSpec := { name := "lawS6738AWhole", fn := fun _ => fun
  | [d1, d2, d3, d4] => { results := [.lit (.bool false)], args := [d1, d2, d3, d4] }
  | _ => none }
def LawS6738AWholeWrongFalsely : Prop := lawS6738AWholeRow.holds Yba.pinned (OpenSpec.ofChange lawS6738AWholeWrong)

/-- 'node.LawS6738ADrain': WHATEVER THE INPUT: true; the input reads as it did. -/
def lawS6738ADrainSpec : ChangeSpec := { name := "lawS6738ADrain", fn := fun _ => fun
  | [d1, d2] => { results := [.lit (.bool true)], args := [d1, d2] }
  | _ => none }
def lawS6738ADrainRow : OpenClaim := { program := "ybulkeine", sum := "3958f0b68cdc69d8e42042ac1f2bac1b2e6bd7acb37c29d71383523fb474bf38", func := "example.com/ambit/ambit/pkg/node.LawS6738ADrain", spec := "lawS6738ADrain", inPlace := ["(*internal/sync.Mutex).Lock", "internal/race.Disable", "sync/atomic.CompareAndSwapInt32", "internal/race.Enable", "internal/race.Acquire", "(*internal/sync.Mutex).lockSlow", "internal/sync.runtime_canSpin", "internal/sync.runtime_doSpin", "internal/sync.throw", "internal/sync.runtime_nanotime", "internal/sync.runtime_SemacquireMutex", "sync/atomic.AddInt32", "(*internal/sync.Mutex).Unlock", "internal/race.ReleaseMerge", "(*internal/sync.Mutex).unlockSlow", "internal/sync.fatal", "internal/sync.runtime_Semrelease"], plainKeys := false, apart := false }
def LawS6738ADrainSaid : Prop := lawS6738ADrainRow.holds Yba.pinned (OpenSpec.ofChange lawS6738ADrainSpec)

/-- ITS FALSE NEIGHBOUR: 'it returns false'. Refute it at one input. -/
def lawS6738ADrainWrong : ChangeSpec := { name := "lawS6738ADrain", fn := fun _ => fun
  | [d1, d2] => { results := [.lit (.bool false)], args := [d1, d2] }
  | _ => none }
def LawS6738ADrainWrongFalsely : Prop := lawS6738ADrainRow.holds Yba.pinned (OpenSpec.ofChange lawS6738ADrainWrong)

/-- 'node.LawS6738CWhole': WHATEVER THE INPUT: true; the input reads as it did. -/
def lawS6738CWholeSpec : ChangeSpec := { name := "lawS6738CWhole", fn := fun _ => fun
  | [d1, d2, d3, d4, d5, d6, d7, d8, d9] => { results := [.lit (.bool true)], args := [d1, d2, d3, d4, d5, d6, d7, d8, d9] }
  | _ => none }
def lawS6738CWholeRow : OpenClaim := { program := "ybulkeine", sum := "3958f0b68cdc69d8e42042ac1f2bac1b2e6bd7acb37c29d71383523fb474bf38", func := "example.com/ambit/ambit/pkg/node.LawS6738CWhole", spec := "lawS6738CWhole", inPlace := ["(*internal/sync.Mutex).Lock", "internal/race.Disable", "sync/atomic.CompareAndSwapInt32", "internal/race.Enable", "internal/race.Acquire", "(*internal/sync.Mutex).lockSlow", "internal/sync.runtime_canSpin", "internal/sync.runtime_doSpin", "internal/sync.throw", "internal/sync.runtime_nanotime", "internal/sync.runtime_SemacquireMutex", "sync/atomic.AddInt32", "(*internal/sync.Mutex).Unlock", "internal/race.ReleaseMerge", "(*internal/sync.Mutex).unlockSlow", "internal/sync.fatal", "internal/sync.runtime_Semrelease"], plainKeys := false, apart := false }
def LawS6738CWholeSaid : Prop := lawS6738CWholeRow.holds Yba.pinned (OpenSpec.ofChange lawS6738CWholeSpec)

/-- ITS FALSE NEIGHBOUR: 'it returns false'. Refute it at one input. -/
def lawS6738CWholeWrong : ChangeSpec := { name := "lawS6738CWhole", fn := fun _ => fun
  | [d1, d2, d3, d4, d5, d6, d7, d8, d9] => { results := [.lit (.bool false)], args := [d1, d2, d3, d4, d5, d6, d7, d8, d9] }
  | _ => none }
def LawS6738CWholeWrongFalsely : Prop := lawS6738CWholeRow.holds Yba.pinned (OpenSpec.ofChange lawS6738CWholeWrong)

end Rows
end Go.Proofs.Ybulkeine
