/-
  DERIVED. GIVEN WITH THE SEED: THE CARDS: each row of YbulkdnmDoorRows.lean that lists a variable, with what it lists TIED to the program's text (the seventh form; the later family's looks); each row that meets fmt, with fmt's text TOLD by the authors' own Lean function (tested against real Go, not proved from fmt's source: count such statements apart). THE CARD IS WHAT COUNTS. Prove the row's statement (the work); the ties are given (YbulkdnmDoorTie.lean); close each card by the builder's one call (the guide's Derived/Test/ToyasCard.lean, 'card_holds'). Laid BY PROGRAM, IN A SANDBOX (cutbox-door.mjs). By AI agents, Wed Nov 11 2026. No macro, syntax, notation, axiom, sorry.
-/
import Derived.Test.YbulkdnmDoorRows
import GoSem.ClaimSeven
namespace Go.Proofs.YbulkdnmDoor
namespace Rows

/-- THE TIED CARD OF 'estampilla.LawS0220AChoice'. -/
def lawS0220AChoiceCard : Claim7 := { stood := { row := lawS0220AChoiceRow, standIns := [], harness := (true, "f0dbcd3506685afece5d75d5c6ade904743859e094dff2e56274cda643b9c4f6"), looks := true }, kinds := [], alts := [], laidByText := true, laidKinds := [.sentinel, .sentinel, .sentinel], laidTests := true, laidLooks := .later }
def LawS0220AChoiceCardSaid : Prop := Claim7.holds Ybad.pinned (.plain (OpenSpec.ofChange lawS0220AChoiceSpec)) lawS0220AChoiceCard

/-- THE TIED CARD OF 'estampilla.LawS0220AOwnError'. -/
def lawS0220AOwnErrorCard : Claim7 := { stood := { row := lawS0220AOwnErrorRow, standIns := [], harness := (true, "f0dbcd3506685afece5d75d5c6ade904743859e094dff2e56274cda643b9c4f6"), looks := true }, kinds := [], alts := [], laidByText := true, laidKinds := [.sentinel], laidTests := true, laidLooks := .later }
def LawS0220AOwnErrorCardSaid : Prop := Claim7.holds Ybad.pinned (.plain (OpenSpec.ofChange lawS0220AOwnErrorSpec)) lawS0220AOwnErrorCard
end Rows
end Go.Proofs.YbulkdnmDoor
