/-
  NARROWER THAN 'FOR EVERY INPUT', by the rows' own cells (each row's printed sentence says how): LawS6737BWhole: ifaces, laid.
  DERIVED. THE GIVEN ROWS OF THIS SEAT. 1 by the template 'for every input the law returns true; each argument reads behind the call as it read before'; 0 by the template 'total and deterministic' (their statements: YbulkeimqDoorTotals.lean).
  GIVEN WITH THE SEED: the statements are not yours to turn. If you find one false, say at which input.
  Laid BY PROGRAM, IN A SANDBOX (cutbox-rows.mjs): the forced cells as the released guide's own fill.sh prints them over the translation 9d9720aa51548c59… (all of the seat's roots in one cut). By AI agents, Wed Nov 11 2026. No macro, syntax, notation, axiom, sorry.
-/
import Derived.Test.YbulkeimqDoorChecked
import GoSem.Claim
import GoSem.ClaimJoined
import GoSem.ClaimMapViews
import Derived.JoinedTies
import Derived.KernelRfl
namespace Go.Proofs.YbulkeimqDoor
/- THE CELL 'sum', in the pinned program and in every row, IS THE sha256 OF THE DUMP (.gsa) THAT YbulkeimqDoorProg.lean LOADS. Nothing in Lean hashes anything: it is a label: what it is worth is what the hold of that sum in a sandbox is worth. -/
noncomputable def Ybad.pinned : Pinned := { name := "ybulkeimqdoor", sum := "9d9720aa51548c598d3c2f2045051e6650cba4cefb1bfa0c493537eb59accdd7", checked := Ybad.checked }
namespace Rows
def none {H : Type} : Left H := { results := [], args := [] }

/- WHAT THE LISTED PACKAGE-LEVEL VARIABLES READ AS WHEN THE CALL BEGINS. Each datum BY PROGRAM (the guide's laid-datum.mjs) off the statement by which the dump's own 'gosem.cut.vars' lays the variable. In a bare row this is a premise. The card (YbulkeimqDoorCards.lean) ties it to the program's text. -/
def laid_example_com_lucioles_lucioles_cbch_sequenceNames {H : Type} : DataW H := .agg [.lit (.string [102, 105, 114, 115, 116]), .lit (.string [115, 101, 99, 111, 110, 100]), .lit (.string [116, 104, 105, 114, 100]), .lit (.string [102, 111, 117, 114, 116, 104]), .lit (.string []), .lit (.string []), .lit (.string []), .lit (.string []), .lit (.string [102, 105, 114, 115, 116, 45, 115, 99, 104, 101, 100, 117, 108, 101]), .lit (.string []), .lit (.string []), .lit (.string []), .lit (.string []), .lit (.string []), .lit (.string []), .lit (.string [110, 117, 108, 108])]
def laid_example_com_lucioles_lucioles_cbch_firstBlocks {H : Type} : DataW H := .agg [.lit (.int .u8 0), .lit (.int .u8 8)]
def laid_example_com_lucioles_lucioles_cbch_ErrBlockLength {H : Type} : DataW H := .iface "*errors.errorString" (.ptr (.agg [.lit (.string [99, 98, 99, 104, 58, 32, 97, 32, 98, 108, 111, 99, 107, 32, 105, 115, 32, 110, 111, 116, 32, 50, 51, 32, 111, 99, 116, 101, 116, 115])]))
def laid_example_com_lucioles_lucioles_cbch_ErrOtherProtocol {H : Type} : DataW H := .iface "*errors.errorString" (.ptr (.agg [.lit (.string [99, 98, 99, 104, 58, 32, 98, 108, 111, 99, 107, 32, 111, 102, 32, 97, 110, 111, 116, 104, 101, 114, 32, 108, 105, 110, 107, 32, 112, 114, 111, 116, 111, 99, 111, 108])]))
def laid_example_com_lucioles_lucioles_cbch_ErrReservedSequence {H : Type} : DataW H := .iface "*errors.errorString" (.ptr (.agg [.lit (.string [99, 98, 99, 104, 58, 32, 115, 101, 113, 117, 101, 110, 99, 101, 32, 110, 117, 109, 98, 101, 114, 32, 114, 101, 115, 101, 114, 118, 101, 100])]))
def laid_example_com_lucioles_lucioles_cbch_ErrNullMessage {H : Type} : DataW H := .iface "*errors.errorString" (.ptr (.agg [.lit (.string [99, 98, 99, 104, 58, 32, 110, 117, 108, 108, 32, 109, 101, 115, 115, 97, 103, 101, 32, 97, 109, 111, 110, 103, 32, 116, 104, 101, 32, 98, 108, 111, 99, 107, 115, 32, 111, 102, 32, 97, 32, 109, 101, 115, 115, 97, 103, 101])]))
def laid_example_com_lucioles_lucioles_cbch_ErrOutOfOrder {H : Type} : DataW H := .iface "*errors.errorString" (.ptr (.agg [.lit (.string [99, 98, 99, 104, 58, 32, 98, 108, 111, 99, 107, 32, 111, 117, 116, 32, 111, 102, 32, 111, 114, 100, 101, 114])]))
def laid_example_com_lucioles_lucioles_cbch_ErrMissingBlock {H : Type} : DataW H := .iface "*errors.errorString" (.ptr (.agg [.lit (.string [99, 98, 99, 104, 58, 32, 98, 108, 111, 99, 107, 32, 109, 105, 115, 115, 105, 110, 103])]))
def laid_example_com_lucioles_lucioles_cbch_ErrExtraBlock {H : Type} : DataW H := .iface "*errors.errorString" (.ptr (.agg [.lit (.string [99, 98, 99, 104, 58, 32, 109, 111, 114, 101, 32, 116, 104, 97, 110, 32, 52, 32, 98, 108, 111, 99, 107, 115])]))

/-- 'cbch.LawS6737BWhole': WHATEVER THE INPUT: true; the input reads as it did. -/
def lawS6737BWholeSpec : ChangeSpec := { name := "lawS6737BWhole", vars := ["example.com/lucioles/lucioles/cbch.ErrExtraBlock", "example.com/lucioles/lucioles/cbch.ErrBlockLength", "example.com/lucioles/lucioles/cbch.ErrOtherProtocol", "example.com/lucioles/lucioles/cbch.ErrReservedSequence", "example.com/lucioles/lucioles/cbch.ErrNullMessage", "example.com/lucioles/lucioles/cbch.ErrOutOfOrder", "example.com/lucioles/lucioles/cbch.ErrMissingBlock", "example.com/lucioles/lucioles/cbch.sequenceNames", "example.com/lucioles/lucioles/cbch.firstBlocks"], fn := fun _ => fun
  | [d1, d2, g1, g2, g3, g4, g5, g6, g7, g8, g9] => { results := [.lit (.bool true)], args := [d1, d2], vars := [g1, g2, g3, g4, g5, g6, g7, g8, g9] }
  | _ => none }
def lawS6737BWholeRow : OpenClaim := { program := "ybulkeimqdoor", sum := "9d9720aa51548c598d3c2f2045051e6650cba4cefb1bfa0c493537eb59accdd7", func := "example.com/lucioles/lucioles/cbch.LawS6737BWhole", spec := "lawS6737BWhole", named := ["example.com/lucioles/lucioles/cbch.ErrExtraBlock", "example.com/lucioles/lucioles/cbch.ErrBlockLength", "example.com/lucioles/lucioles/cbch.ErrOtherProtocol", "example.com/lucioles/lucioles/cbch.ErrReservedSequence", "example.com/lucioles/lucioles/cbch.ErrNullMessage", "example.com/lucioles/lucioles/cbch.ErrOutOfOrder", "example.com/lucioles/lucioles/cbch.ErrMissingBlock", "example.com/lucioles/lucioles/cbch.sequenceNames", "example.com/lucioles/lucioles/cbch.firstBlocks"], ifaces := true, apart := false, laid := [("example.com/lucioles/lucioles/cbch.sequenceNames", laid_example_com_lucioles_lucioles_cbch_sequenceNames), ("example.com/lucioles/lucioles/cbch.firstBlocks", laid_example_com_lucioles_lucioles_cbch_firstBlocks), ("example.com/lucioles/lucioles/cbch.ErrBlockLength", laid_example_com_lucioles_lucioles_cbch_ErrBlockLength), ("example.com/lucioles/lucioles/cbch.ErrOtherProtocol", laid_example_com_lucioles_lucioles_cbch_ErrOtherProtocol), ("example.com/lucioles/lucioles/cbch.ErrReservedSequence", laid_example_com_lucioles_lucioles_cbch_ErrReservedSequence), ("example.com/lucioles/lucioles/cbch.ErrNullMessage", laid_example_com_lucioles_lucioles_cbch_ErrNullMessage), ("example.com/lucioles/lucioles/cbch.ErrOutOfOrder", laid_example_com_lucioles_lucioles_cbch_ErrOutOfOrder), ("example.com/lucioles/lucioles/cbch.ErrMissingBlock", laid_example_com_lucioles_lucioles_cbch_ErrMissingBlock), ("example.com/lucioles/lucioles/cbch.ErrExtraBlock", laid_example_com_lucioles_lucioles_cbch_ErrExtraBlock)] }
def LawS6737BWholeSaid : Prop := lawS6737BWholeRow.holds Ybad.pinned (OpenSpec.ofChange lawS6737BWholeSpec)

/-- ITS FALSE NEIGHBOUR: 'it returns false'. Refute it at one input. -/
def lawS6737BWholeWrong : ChangeSpec := { name := "lawS6737BWhole", vars := ["example.com/lucioles/lucioles/cbch.ErrExtraBlock", "example.com/lucioles/lucioles/cbch.ErrBlockLength", "example.com/lucioles/lucioles/cbch.ErrOtherProtocol", "example.com/lucioles/lucioles/cbch.ErrReservedSequence", "example.com/lucioles/lucioles/cbch.ErrNullMessage", "example.com/lucioles/lucioles/cbch.ErrOutOfOrder", "example.com/lucioles/lucioles/cbch.ErrMissingBlock", "example.com/lucioles/lucioles/cbch.sequenceNames", "example.com/lucioles/lucioles/cbch.firstBlocks"], fn := fun _ => fun
  | [d1, d2, g1, g2, g3, g4, g5, g6, g7, g8, g9] => { results := [.lit (.bool false)], args := [d1, d2], vars := [g1, g2, g3, g4, g5, g6, g7, g8, g9] }
  | _ => none }
def LawS6737BWholeWrongFalsely : Prop := lawS6737BWholeRow.holds Ybad.pinned (OpenSpec.ofChange lawS6737BWholeWrong)

end Rows
end Go.Proofs.YbulkeimqDoor
