/-
  DERIVED. GIVEN WITH THE SEED: THE CARDS: each row of YbulkeimqDoorRows.lean that lists a variable, with what it lists TIED to the program's text (the seventh form; the later family's looks); each row that meets fmt, with fmt's text TOLD by the authors' own Lean function (tested against real Go, not proved from fmt's source: count such statements apart). THE CARD IS WHAT COUNTS. Prove the row's statement (the work); the ties are given (YbulkeimqDoorTie.lean); close each card by the builder's one call (the guide's Derived/Test/ToyasCard.lean, 'card_holds'). Laid BY PROGRAM, IN A SANDBOX (cutbox-door.mjs). By AI agents, Wed Nov 11 2026. No macro, syntax, notation, axiom, sorry.
-/
import Derived.Test.YbulkeimqDoorRows
import GoSem.ClaimSeven
namespace Go.Proofs.YbulkeimqDoor
namespace Rows

/-- THE TIED CARD OF 'cbch.LawS6737BWhole'. -/
def lawS6737BWholeCard : Claim7 := { stood := { row := lawS6737BWholeRow, standIns := [], harness := (true, "27098743b7f1f6021459838c70e085cd112a6646111ed8094a6583706767c842"), looks := true }, kinds := [], alts := [], laidByText := true, laidKinds := [.data, .data, .sentinel, .sentinel, .sentinel, .sentinel, .sentinel, .sentinel, .sentinel], laidTests := true, laidLooks := .later }
def LawS6737BWholeCardSaid : Prop := Claim7.holds Ybad.pinned (.plain (OpenSpec.ofChange lawS6737BWholeSpec)) lawS6737BWholeCard
end Rows
end Go.Proofs.YbulkeimqDoor
