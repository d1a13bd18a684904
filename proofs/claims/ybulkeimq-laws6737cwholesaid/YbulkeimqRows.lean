/-
  No cell of these rows narrows 'for every input' (looked for: loops, veiled, ifaces, maps, wideKeys, modest, calm, conditions, laid).
  DERIVED. THE GIVEN ROWS OF THIS SEAT. 2 by the template 'for every input the law returns true; each argument reads behind the call as it read before'; 0 by the template 'total and deterministic' (their statements: YbulkeimqTotals.lean).
  GIVEN WITH THE SEED: the statements are not yours to turn. If you find one false, say at which input.
  Laid BY PROGRAM, IN A SANDBOX (cutbox-rows.mjs): the forced cells as the released guide's own fill.sh prints them over the translation 69b47255536dac63… (all of the seat's roots in one cut). By AI agents, Wed Nov 11 2026. No macro, syntax, notation, axiom, sorry.
-/
import Derived.Test.YbulkeimqChecked
import GoSem.Claim
import GoSem.ClaimJoined
import GoSem.ClaimMapViews
import Derived.JoinedTies
import Derived.KernelRfl
namespace Go.Proofs.Ybulkeimq
/- THE CELL 'sum', in the pinned program and in every row, IS THE sha256 OF THE DUMP (.gsa) THAT YbulkeimqProg.lean LOADS. Nothing in Lean hashes anything: it is a label: what it is worth is what the hold of that sum in a sandbox is worth. -/
noncomputable def Yba.pinned : Pinned := { name := "ybulkeimq", sum := "69b47255536dac632f2986b5449252883723a6206952a8b8e8684adbd4ca7837", checked := Yba.checked }
namespace Rows
def none {H : Type} : Left H := { results := [], args := [] }

/-- 'aoc.LawS6737AWhole': WHATEVER THE INPUT: true; the input reads as it did. -/
def lawS6737AWholeSpec : ChangeSpec := { name := "lawS6737AWhole", fn := fun _ => fun
  | [d1, d2] => { results := [.lit (.bool true)], args := [d1, d2] }
  | _ => none }
def lawS6737AWholeRow : OpenClaim := { program := "ybulkeimq", sum := "69b47255536dac632f2986b5449252883723a6206952a8b8e8684adbd4ca7837", func := "example.com/lucioles/lucioles/aoc.LawS6737AWhole", spec := "lawS6737AWhole", apart := false }
def LawS6737AWholeSaid : Prop := lawS6737AWholeRow.holds Yba.pinned (OpenSpec.ofChange lawS6737AWholeSpec)

/-- ITS FALSE NEIGHBOUR: 'it returns false'. Refute it at one input. -/
def lawS6737AWholeWrong : ChangeSpec := { name := "lawS6737AWhole", fn := fun _ => fun
  | [d1, d2] => { results := [.lit (.bool false)], args := [d1, d2] }
  | _ => none }
def LawS6737AWholeWrongFalsely : Prop := lawS6737AWholeRow.holds Yba.pinned (OpenSpec.ofChange lawS6737AWholeWrong)

/-- 'mbmssync.LawS6737CWhole': WHATEVER THE INPUT: true; the input reads as it did. -/
def lawS6737CWholeSpec : ChangeSpec := { name := "lawS6737CWhole", fn := fun _ => fun
  | [d1, d2] => { results := [.lit (.bool true)], args := [d1, d2] }
  | _ => none }
def lawS6737CWholeRow : OpenClaim := { program := "ybulkeimq", sum := "69b47255536dac632f2986b5449252883723a6206952a8b8e8684adbd4ca7837", func := "example.com/lucioles/lucioles/mbmssync.LawS6737CWhole", spec := "lawS6737CWhole", apart := false }
def LawS6737CWholeSaid : Prop := lawS6737CWholeRow.holds Yba.pinned (OpenSpec.ofChange lawS6737CWholeSpec)

/-- ITS FALSE NEIGHBOUR: 'it returns false'. Refute it at one input. -/
def lawS6737CWholeWrong : ChangeSpec := { name := "lawS6737CWhole", fn := fun _ => fun
  | [d1, d2] => { results := [.lit (.bool false)], args := [d1, d2] }
  | _ => none }
def LawS6737CWholeWrongFalsely : Prop := lawS6737CWholeRow.holds Yba.pinned (OpenSpec.ofChange lawS6737CWholeWrong)

end Rows
end Go.Proofs.Ybulkeimq
