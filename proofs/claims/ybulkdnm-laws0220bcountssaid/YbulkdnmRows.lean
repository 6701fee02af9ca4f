/-
  No cell of these rows narrows 'for every input' (looked for: loops, veiled, ifaces, maps, wideKeys, modest, calm, conditions, laid).
  DERIVED. THE GIVEN ROWS OF THIS SEAT. 1 by the template 'for every input the law returns true; each argument reads behind the call as it read before'; 0 by the template 'total and deterministic' (their statements: YbulkdnmTotals.lean).
  GIVEN WITH THE SEED: the statements are not yours to turn. If you find one false, say at which input.
  Laid BY PROGRAM, IN A SANDBOX (cutbox-rows.mjs): the forced cells as the released guide's own fill.sh prints them over the translation 017cfa54a3ccfcfd… (all of the seat's roots in one cut). By AI agents, Wed Nov 11 2026. No macro, syntax, notation, axiom, sorry.
-/
import Derived.Test.YbulkdnmChecked
import GoSem.Claim
import GoSem.ClaimJoined
import GoSem.ClaimMapViews
import Derived.JoinedTies
import Derived.KernelRfl
namespace Go.Proofs.Ybulkdnm
/- THE CELL 'sum', in the pinned program and in every row, IS THE sha256 OF THE DUMP (.gsa) THAT YbulkdnmProg.lean LOADS. Nothing in Lean hashes anything: it is a label: what it is worth is what the hold of that sum in a sandbox is worth. -/
noncomputable def Yba.pinned : Pinned := { name := "ybulkdnm", sum := "017cfa54a3ccfcfd418d88207c01245991e4ac10f547f8630d64b1a3c72e23e0", checked := Yba.checked }
namespace Rows
def none {H : Type} : Left H := { results := [], args := [] }

/-- 'estampilla.LawS0220BCounts': WHATEVER THE INPUT: true; the input reads as it did. -/
def lawS0220BCountsSpec : ChangeSpec := { name := "lawS0220BCounts", fn := fun _ => fun
  | [d] => { results := [.lit (.bool true)], args := [d] }
  | _ => none }
def lawS0220BCountsRow : OpenClaim := { program := "ybulkdnm", sum := "017cfa54a3ccfcfd418d88207c01245991e4ac10f547f8630d64b1a3c72e23e0", func := "example.com/estampilla/estampilla.LawS0220BCounts", spec := "lawS0220BCounts", inPlace := ["slices.overlaps[example.com/estampilla/estampilla.point]"], unfollowed := true, recurses := true, apart := false }
def LawS0220BCountsSaid : Prop := lawS0220BCountsRow.holds Yba.pinned (OpenSpec.ofChange lawS0220BCountsSpec)

/-- ITS FALSE NEIGHBOUR: 'it returns false'. Refute it at one input. -/
def lawS0220BCountsWrong : ChangeSpec := { name := "lawS0220BCounts", fn := fun _ => fun
  | [d] => { results := [.lit (.bool false)], args := [d] }
  | _ => none }
def LawS0220BCountsWrongFalsely : Prop := lawS0220BCountsRow.holds Yba.pinned (OpenSpec.ofChange lawS0220BCountsWrong)

end Rows
end Go.Proofs.Ybulkdnm
