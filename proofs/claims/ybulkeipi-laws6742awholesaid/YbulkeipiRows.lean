/-
  No cell of these rows narrows 'for every input' (looked for: loops, veiled, ifaces, maps, wideKeys, modest, calm, conditions, laid).
  DERIVED. THE GIVEN ROWS OF THIS SEAT. 2 by the template 'for every input the law returns true; each argument reads behind the call as it read before'; 0 by the template 'total and deterministic' (their statements: YbulkeipiTotals.lean).
  GIVEN WITH THE SEED: the statements are not yours to turn. If you find one false, say at which input.
  Laid BY PROGRAM, IN A SANDBOX (cutbox-rows.mjs): the forced cells as the released guide's own fill.sh prints them over the translation b102431f264d5c3e… (all of the seat's roots in one cut). By AI agents, Wed Nov 11 2026. No macro, syntax, notation, axiom, sorry.
-/
import Derived.Test.YbulkeipiChecked
import GoSem.Claim
import GoSem.ClaimJoined
import GoSem.ClaimMapViews
import Derived.JoinedTies
import Derived.KernelRfl
namespace Go.Proofs.Ybulkeipi
/- THE CELL 'sum', in the pinned program and in every row, IS THE sha256 OF THE DUMP (.gsa) THAT YbulkeipiProg.lean LOADS. Nothing in Lean hashes anything: it is a label: what it is worth is what the hold of that sum in a sandbox is worth. -/
noncomputable def Yba.pinned : Pinned := { name := "ybulkeipi", sum := "b102431f264d5c3ea9b6ecf2a4ce911c99d51a0f9c7b41fd4a0211107c4f9350", checked := Yba.checked }
namespace Rows
def none {H : Type} : Left H := { results := [], args := [] }

/-- 'result.LawS6742AWhole': WHATEVER THE INPUT: true; the input reads as it did. -/
def lawS6742AWholeSpec : ChangeSpec := { name := "lawS6742AWhole", fn := fun _ => fun
  | [d1, d2, d3, d4, d5, d6] => { results := [.lit (.bool true)], args := [d1, d2, d3, d4, d5, d6] }
  | _ => none }
def lawS6742AWholeRow : OpenClaim := { program := "ybulkeipi", sum := "b102431f264d5c3ea9b6ecf2a4ce911c99d51a0f9c7b41fd4a0211107c4f9350", func := "example.com/turnwire/turnwire/internal/result.LawS6742AWhole", spec := "lawS6742AWhole", unfollowed := true, recurses := true, apart := false }
def LawS6742AWholeSaid : Prop := lawS6742AWholeRow.holds Yba.pinned (OpenSpec.ofChange lawS6742AWholeSpec)

/-- ITS FALSE NEIGHBOUR: 'it returns false'. Refute it at one input. -/
def lawS6742AWholeWrong : ChangeSpec := { name := "lawS6742AWhole", fn := fun _ => fun
  | [d1, d2, d3, d4, d5, d6] => { results := [.lit (.bool false)], args := [d1, d2, d3, d4, d5, d6] }
  | _ => none }
def LawS6742AWholeWrongFalsely : Prop := lawS6742AWholeRow.holds Yba.pinned (OpenSpec.ofChange lawS6742AWholeWrong)

/-- 'result.LawS6742AStandIn': WHATEVER THE INPUT: true; the input reads as it did. -/
def lawS6742AStandInSpec : ChangeSpec := { name := "lawS6742AStandIn", fn := fun _ => fun
  | [d1, d2] => { results := [.lit (.bool true)], args := [d1, d2] }
  | _ => none }
def lawS6742AStandInRow : OpenClaim := { program := "ybulkeipi", sum := "b102431f264d5c3ea9b6ecf2a4ce911c99d51a0f9c7b41fd4a0211107c4f9350", func := "example.com/turnwire/turnwire/internal/result.LawS6742AStandIn", spec := "lawS6742AStandIn", unfollowed := true, recurses := true, apart := false }
def LawS6742AStandInSaid : Prop := lawS6742AStandInRow.holds Yba.pinned (OpenSpec.ofChange lawS6742AStandInSpec)

/-- ITS FALSE NEIGHBOUR: 'it returns false'. Refute it at one input. -/
def lawS6742AStandInWrong : ChangeSpec := { name := "lawS6742AStandIn", fn := fun _ => fun
  | [d1, d2] => { results := [.lit (.bool false)], args := [d1, d2] }
  | _ => none }
def LawS6742AStandInWrongFalsely : Prop := lawS6742AStandInRow.holds Yba.pinned (OpenSpec.ofChange lawS6742AStandInWrong)

end Rows
end Go.Proofs.Ybulkeipi
