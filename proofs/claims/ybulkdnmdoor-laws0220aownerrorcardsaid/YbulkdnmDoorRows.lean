/-
  NARROWER THAN 'FOR EVERY INPUT', by the rows' own cells (each row's printed sentence says how): LawS0220AChoice: ifaces, laid · LawS0220AOwnError: ifaces, laid.
  DERIVED. THE GIVEN ROWS OF THIS SEAT. 3 by the template 'for every input the law returns true; each argument reads behind the call as it read before'; 0 by the template 'total and deterministic' (their statements: YbulkdnmDoorTotals.lean).
  GIVEN WITH THE SEED: the statements are not yours to turn. If you find one false, say at which input.
  Laid BY PROGRAM, IN A SANDBOX (cutbox-rows.mjs): the forced cells as the released guide's own fill.sh prints them over the translation cc061fdfd9af0ed3… (all of the seat's roots in one cut). By AI agents, Wed Nov 11 2026. No macro, syntax, notation, axiom, sorry.
-/
import Derived.Test.YbulkdnmDoorChecked
import GoSem.Claim
import GoSem.ClaimJoined
import GoSem.ClaimMapViews
import Derived.JoinedTies
import Derived.KernelRfl
namespace Go.Proofs.YbulkdnmDoor
/- THE CELL 'sum', in the pinned program and in every row, IS THE sha256 OF THE DUMP (.gsa) THAT YbulkdnmDoorProg.lean LOADS. Nothing in Lean hashes anything: it is a label: what it is worth is what the hold of that sum in a sandbox is worth. -/
noncomputable def Ybad.pinned : Pinned := { name := "ybulkdnmdoor", sum := "cc061fdfd9af0ed3c572b8dddc95d72a434c4fa5a6590af3b5ab829e84fcdbf5", checked := Ybad.checked }
namespace Rows
def none {H : Type} : Left H := { results := [], args := [] }

/- WHAT THE LISTED PACKAGE-LEVEL VARIABLES READ AS WHEN THE CALL BEGINS. Each datum BY PROGRAM (the guide's laid-datum.mjs) off the statement by which the dump's own 'gosem.cut.vars' lays the variable. In a bare row this is a premise. The card (YbulkdnmDoorCards.lean) ties it to the program's text. -/
def laid_example_com_estampilla_estampilla_ErrEnded {H : Type} : DataW H := .iface "*errors.errorString" (.ptr (.agg [.lit (.string [116, 104, 101, 32, 116, 114, 97, 110, 115, 97, 99, 116, 105, 111, 110, 32, 104, 97, 115, 32, 101, 110, 100, 101, 100])]))
def laid_example_com_estampilla_estampilla_ErrClosed {H : Type} : DataW H := .iface "*errors.errorString" (.ptr (.agg [.lit (.string [116, 104, 101, 32, 115, 116, 111, 114, 101, 32, 105, 115, 32, 99, 108, 111, 115, 101, 100])]))
def laid_example_com_estampilla_estampilla_ErrReadOnly {H : Type} : DataW H := .iface "*errors.errorString" (.ptr (.agg [.lit (.string [116, 104, 101, 32, 116, 114, 97, 110, 115, 97, 99, 116, 105, 111, 110, 32, 105, 115, 32, 114, 101, 97, 100, 45, 111, 110, 108, 121])]))

/-- 'estampilla.LawS0220AChoice': WHATEVER THE INPUT: true; the input reads as it did. -/
def lawS0220AChoiceSpec : ChangeSpec := { name := "lawS0220AChoice", vars := ["example.com/estampilla/estampilla.ErrClosed", "example.com/estampilla/estampilla.ErrReadOnly", "example.com/estampilla/estampilla.ErrEnded"], fn := fun _ => fun
  | [d1, d2, d3, g1, g2, g3] => { results := [.lit (.bool true)], args := [d1, d2, d3], vars := [g1, g2, g3] }
  | _ => none }
def lawS0220AChoiceRow : OpenClaim := { program := "ybulkdnmdoor", sum := "cc061fdfd9af0ed3c572b8dddc95d72a434c4fa5a6590af3b5ab829e84fcdbf5", func := "example.com/estampilla/estampilla.LawS0220AChoice", spec := "lawS0220AChoice", named := ["example.com/estampilla/estampilla.ErrClosed", "example.com/estampilla/estampilla.ErrReadOnly", "example.com/estampilla/estampilla.ErrEnded"], ifaces := true, apart := false, laid := [("example.com/estampilla/estampilla.ErrEnded", laid_example_com_estampilla_estampilla_ErrEnded), ("example.com/estampilla/estampilla.ErrClosed", laid_example_com_estampilla_estampilla_ErrClosed), ("example.com/estampilla/estampilla.ErrReadOnly", laid_example_com_estampilla_estampilla_ErrReadOnly)] }
def LawS0220AChoiceSaid : Prop := lawS0220AChoiceRow.holds Ybad.pinned (OpenSpec.ofChange lawS0220AChoiceSpec)

/-- ITS FALSE NEIGHBOUR: 'it returns false'. Refute it at one input. -/
def lawS0220AChoiceWrong : ChangeSpec := { name := "lawS0220AChoice", vars := ["example.com/estampilla/estampilla.ErrClosed", "example.com/estampilla/estampilla.ErrReadOnly", "example.com/estampilla/estampilla.ErrEnded"], fn := fun _ => fun
  | [d1, d2, d3, g1, g2, g3] => { results := [.lit (.bool false)], args := [d1, d2, d3], vars := [g1, g2, g3] }
  | _ => none }
def LawS0220AChoiceWrongFalsely : Prop := lawS0220AChoiceRow.holds Ybad.pinned (OpenSpec.ofChange lawS0220AChoiceWrong)

/-- 'estampilla.LawS0220AOwnError': WHATEVER THE INPUT: true; the input reads as it did. -/
def lawS0220AOwnErrorSpec : ChangeSpec := { name := "lawS0220AOwnError", vars := ["example.com/estampilla/estampilla.ErrEnded"], fn := fun _ => fun
  | [d1, d2, g1] => { results := [.lit (.bool true)], args := [d1, d2], vars := [g1] }
  | _ => none }
def lawS0220AOwnErrorRow : OpenClaim := { program := "ybulkdnmdoor", sum := "cc061fdfd9af0ed3c572b8dddc95d72a434c4fa5a6590af3b5ab829e84fcdbf5", func := "example.com/estampilla/estampilla.LawS0220AOwnError", spec := "lawS0220AOwnError", named := ["example.com/estampilla/estampilla.ErrEnded"], ifaces := true, apart := false, laid := [("example.com/estampilla/estampilla.ErrEnded", laid_example_com_estampilla_estampilla_ErrEnded)] }
def LawS0220AOwnErrorSaid : Prop := lawS0220AOwnErrorRow.holds Ybad.pinned (OpenSpec.ofChange lawS0220AOwnErrorSpec)

/-- ITS FALSE NEIGHBOUR: 'it returns false'. Refute it at one input. -/
def lawS0220AOwnErrorWrong : ChangeSpec := { name := "lawS0220AOwnError", vars := ["example.com/estampilla/estampilla.ErrEnded"], fn := fun _ => fun
  | [d1, d2, g1] => { results := [.lit (.bool false)], args := [d1, d2], vars := [g1] }
  | _ => none }
def LawS0220AOwnErrorWrongFalsely : Prop := lawS0220AOwnErrorRow.holds Ybad.pinned (OpenSpec.ofChange lawS0220AOwnErrorWrong)

/-- 'estampilla.LawS0220BHoldRelease': WHATEVER THE INPUT: true; the input reads as it did. -/
def lawS0220BHoldReleaseSpec : ChangeSpec := { name := "lawS0220BHoldRelease", fn := fun _ => fun
  | [d1, d2] => { results := [.lit (.bool true)], args := [d1, d2] }
  | _ => none }
def lawS0220BHoldReleaseRow : OpenClaim := { program := "ybulkdnmdoor", sum := "cc061fdfd9af0ed3c572b8dddc95d72a434c4fa5a6590af3b5ab829e84fcdbf5", func := "example.com/estampilla/estampilla.LawS0220BHoldRelease", spec := "lawS0220BHoldRelease", inPlace := ["slices.overlaps[example.com/estampilla/estampilla.point]", "sync/atomic.StorePointer", "(*sync.Map).Store", "(*sync.Map).enter", "sync.runtime_procPin", "(*sync.Map).put", "internal/race.Release", "internal/race.Disable", "(*internal/sync.HashTrieMap[any, any]).Store", "(*internal/sync.HashTrieMap[any, any]).Swap", "(*internal/sync.HashTrieMap[any, any]).init", "sync/atomic.LoadUint32", "(*internal/sync.HashTrieMap[any, any]).initSlow", "internal/race.Enable", "internal/abi.NoEscape", "internal/sync.quietRoot[any,any]", "sync/atomic.LoadPointer", "(*internal/sync.node[any, any]).indirect", "internal/sync.quietLock", "(*internal/sync.Mutex).Lock", "sync/atomic.CompareAndSwapInt32", "internal/race.Acquire", "(*internal/sync.Mutex).lockSlow", "internal/sync.runtime_canSpin", "internal/sync.runtime_doSpin", "internal/sync.throw", "internal/sync.runtime_nanotime", "internal/sync.runtime_SemacquireMutex", "sync/atomic.AddInt32", "internal/sync.quietUnlock", "(*internal/sync.Mutex).Unlock", "internal/race.ReleaseMerge", "(*internal/sync.Mutex).unlockSlow", "internal/sync.fatal", "internal/sync.runtime_Semrelease", "(*internal/sync.node[any, any]).entry", "(*internal/sync.entry[any, any]).swap", "internal/sync.newEntryNode[any,any]", "(*internal/sync.HashTrieMap[any, any]).expand", "internal/sync.newIndirectNode[any,any]", "sync.mapLeave", "sync.runtime_procUnpin"], unfollowed := true, recurses := true, named := ["sync.mapProbe"], apart := false }
def LawS0220BHoldReleaseSaid : Prop := lawS0220BHoldReleaseRow.holds Ybad.pinned (OpenSpec.ofChange lawS0220BHoldReleaseSpec)

/-- ITS FALSE NEIGHBOUR: 'it returns false'. Refute it at one input. -/
def lawS0220BHoldReleaseWrong : ChangeSpec := { name := "lawS0220BHoldRelease", fn := fun _ => fun
  | [d1, d2] => { results := [.lit (.bool false)], args := [d1, d2] }
  | _ => none }
def LawS0220BHoldReleaseWrongFalsely : Prop := lawS0220BHoldReleaseRow.holds Ybad.pinned (OpenSpec.ofChange lawS0220BHoldReleaseWrong)

end Rows
end Go.Proofs.YbulkdnmDoor
