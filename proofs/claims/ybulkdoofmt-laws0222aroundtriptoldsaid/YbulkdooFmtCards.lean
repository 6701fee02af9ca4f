/-
  DERIVED. GIVEN WITH THE SEED: THE CARDS: each row of YbulkdooFmtRows.lean that lists a variable, with what it lists TIED to the program's text (the seventh form; the later family's looks); each row that meets fmt, with fmt's text TOLD by the authors' own Lean function (tested against real Go, not proved from fmt's source: count such statements apart). THE CARD IS WHAT COUNTS. Prove the row's statement (the work); the ties are given (YbulkdooFmtTie.lean); close each card by the builder's one call (the guide's Derived/Test/ToyasCard.lean, 'card_holds'). Laid BY PROGRAM, IN A SANDBOX (cutbox-door.mjs). By AI agents, Wed Nov 11 2026. No macro, syntax, notation, axiom, sorry.
-/
import Derived.Test.YbulkdooFmtRows
import GoSem.ClaimSeven
namespace Go.Proofs.YbulkdooFmt
namespace Rows

/-- THE TOLD AND TIED CARD OF 'srtp.LawS0222AName'. -/
def lawS0222ANameCard : Claim7 := { stood := { row := lawS0222ANameRow, standIns := [], harness := (true, "b6f574e370427426fb27280f0bf55e36c753c43e11e5d17d63ab7775c0005fd7"), looks := false }, told := true, laidByText := true, laidKinds := [.widerDeep], laidTests := true, laidLooks := .later, goes := false }
def LawS0222ANameToldSaid : Prop := Claim7.holds Ybaf.pinned (.plain (OpenSpec.ofChange lawS0222ANameSpec)) lawS0222ANameCard
/-- ITS FALSE NEIGHBOUR. Refute it at one input. -/
def LawS0222ANameToldWrongFalsely : Prop := Claim7.holds Ybaf.pinned (.plain (OpenSpec.ofChange lawS0222ANameWrong)) lawS0222ANameCard

/-- THE TOLD AND TIED CARD OF 'srtp.LawS0222ARoundTrip'. -/
def lawS0222ARoundTripCard : Claim7 := { stood := { row := lawS0222ARoundTripRow, standIns := [], harness := (true, "b6f574e370427426fb27280f0bf55e36c753c43e11e5d17d63ab7775c0005fd7"), looks := false }, told := true, laidByText := true, laidKinds := [.widerDeep], laidTests := true, laidLooks := .later, goes := false }
def LawS0222ARoundTripToldSaid : Prop := Claim7.holds Ybaf.pinned (.plain (OpenSpec.ofChange lawS0222ARoundTripSpec)) lawS0222ARoundTripCard
/-- ITS FALSE NEIGHBOUR. Refute it at one input. -/
def LawS0222ARoundTripToldWrongFalsely : Prop := Claim7.holds Ybaf.pinned (.plain (OpenSpec.ofChange lawS0222ARoundTripWrong)) lawS0222ARoundTripCard
end Rows
end Go.Proofs.YbulkdooFmt
