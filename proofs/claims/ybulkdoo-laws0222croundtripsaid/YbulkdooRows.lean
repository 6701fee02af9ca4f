/-
  No cell of these rows narrows 'for every input' (looked for: loops, veiled, ifaces, maps, wideKeys, modest, calm, conditions, laid).
  DERIVED. THE GIVEN ROWS OF THIS SEAT. 4 by the template 'for every input the law returns true; each argument reads behind the call as it read before'; 0 by the template 'total and deterministic' (their statements: YbulkdooTotals.lean).
  GIVEN WITH THE SEED: the statements are not yours to turn. If you find one false, say at which input.
  Laid BY PROGRAM, IN A SANDBOX (cutbox-rows.mjs): the forced cells as the released guide's own fill.sh prints them over the translation ff971da8e98ebd4b… (all of the seat's roots in one cut). By AI agents, Wed Nov 11 2026. No macro, syntax, notation, axiom, sorry.
-/
import Derived.Test.YbulkdooChecked
import GoSem.Claim
import GoSem.ClaimJoined
import GoSem.ClaimMapViews
import Derived.JoinedTies
import Derived.KernelRfl
namespace Go.Proofs.Ybulkdoo
/- THE CELL 'sum', in the pinned program and in every row, IS THE sha256 OF THE DUMP (.gsa) THAT YbulkdooProg.lean LOADS. Nothing in Lean hashes anything: it is a label: what it is worth is what the hold of that sum in a sandbox is worth. -/
noncomputable def Yba.pinned : Pinned := { name := "ybulkdoo", sum := "ff971da8e98ebd4b689d9f36282772e7b66ffb650de5effc82c1775ce57c2c23", checked := Yba.checked }
namespace Rows
def none {H : Type} : Left H := { results := [], args := [] }

/-- 'dtls.LawS0222BUndo': WHATEVER THE INPUT: true; the input reads as it did. -/
def lawS0222BUndoSpec : ChangeSpec := { name := "lawS0222BUndo", fn := fun _ => fun
  | [d1, d2, d3, d4] => { results := [.lit (.bool true)], args := [d1, d2, d3, d4] }
  | _ => none }
def lawS0222BUndoRow : OpenClaim := { program := "ybulkdoo", sum := "ff971da8e98ebd4b689d9f36282772e7b66ffb650de5effc82c1775ce57c2c23", func := "example.com/hushwire/hushwire/internal/dtls.LawS0222BUndo", spec := "lawS0222BUndo", unfollowed := true, recurses := true, apart := false }
def LawS0222BUndoSaid : Prop := lawS0222BUndoRow.holds Yba.pinned (OpenSpec.ofChange lawS0222BUndoSpec)

/-- ITS FALSE NEIGHBOUR: 'it returns false'. Refute it at one input. -/
def lawS0222BUndoWrong : ChangeSpec := { name := "lawS0222BUndo", fn := fun _ => fun
  | [d1, d2, d3, d4] => { results := [.lit (.bool false)], args := [d1, d2, d3, d4] }
  | _ => none }
def LawS0222BUndoWrongFalsely : Prop := lawS0222BUndoRow.holds Yba.pinned (OpenSpec.ofChange lawS0222BUndoWrong)

/-- 'dtls.LawS0222BClose': WHATEVER THE INPUT: true; the input reads as it did. -/
def lawS0222BCloseSpec : ChangeSpec := { name := "lawS0222BClose", fn := fun _ => fun
  | [d1, d2, d3] => { results := [.lit (.bool true)], args := [d1, d2, d3] }
  | _ => none }
def lawS0222BCloseRow : OpenClaim := { program := "ybulkdoo", sum := "ff971da8e98ebd4b689d9f36282772e7b66ffb650de5effc82c1775ce57c2c23", func := "example.com/hushwire/hushwire/internal/dtls.LawS0222BClose", spec := "lawS0222BClose", inPlace := ["(*internal/sync.Mutex).Lock", "internal/race.Disable", "sync/atomic.CompareAndSwapInt32", "internal/race.Enable", "internal/race.Acquire", "(*internal/sync.Mutex).lockSlow", "internal/sync.runtime_canSpin", "internal/sync.runtime_doSpin", "internal/sync.throw", "internal/sync.runtime_nanotime", "internal/sync.runtime_SemacquireMutex", "sync/atomic.AddInt32", "(*internal/sync.Mutex).Unlock", "internal/race.ReleaseMerge", "(*internal/sync.Mutex).unlockSlow", "internal/sync.fatal", "internal/sync.runtime_Semrelease"], unfollowed := true, recurses := true, apart := false }
def LawS0222BCloseSaid : Prop := lawS0222BCloseRow.holds Yba.pinned (OpenSpec.ofChange lawS0222BCloseSpec)

/-- ITS FALSE NEIGHBOUR: 'it returns false'. Refute it at one input. -/
def lawS0222BCloseWrong : ChangeSpec := { name := "lawS0222BClose", fn := fun _ => fun
  | [d1, d2, d3] => { results := [.lit (.bool false)], args := [d1, d2, d3] }
  | _ => none }
def LawS0222BCloseWrongFalsely : Prop := lawS0222BCloseRow.holds Yba.pinned (OpenSpec.ofChange lawS0222BCloseWrong)

/-- 'dtls.LawS0222CRoundTrip': WHATEVER THE INPUT: true; the input reads as it did. -/
def lawS0222CRoundTripSpec : ChangeSpec := { name := "lawS0222CRoundTrip", fn := fun _ => fun
  | [d1, d2, d3, d4] => { results := [.lit (.bool true)], args := [d1, d2, d3, d4] }
  | _ => none }
def lawS0222CRoundTripRow : OpenClaim := { program := "ybulkdoo", sum := "ff971da8e98ebd4b689d9f36282772e7b66ffb650de5effc82c1775ce57c2c23", func := "example.com/hushwire/hushwire/internal/dtls.LawS0222CRoundTrip", spec := "lawS0222CRoundTrip", named := ["encoding/binary.BigEndian"], apart := false }
def LawS0222CRoundTripSaid : Prop := lawS0222CRoundTripRow.holds Yba.pinned (OpenSpec.ofChange lawS0222CRoundTripSpec)

/-- ITS FALSE NEIGHBOUR: 'it returns false'. Refute it at one input. -/
def lawS0222CRoundTripWrong : ChangeSpec := { name := "lawS0222CRoundTrip", fn := fun _ => fun
  | [d1, d2, d3, d4] => { results := [.lit (.bool false)], args := [d1, d2, d3, d4] }
  | _ => none }
def LawS0222CRoundTripWrongFalsely : Prop := lawS0222CRoundTripRow.holds Yba.pinned (OpenSpec.ofChange lawS0222CRoundTripWrong)

/-- 'dtls.LawS0222CModel': WHATEVER THE INPUT: true; the input reads as it did. -/
def lawS0222CModelSpec : ChangeSpec := { name := "lawS0222CModel", fn := fun _ => fun
  | [d] => { results := [.lit (.bool true)], args := [d] }
  | _ => none }
def lawS0222CModelRow : OpenClaim := { program := "ybulkdoo", sum := "ff971da8e98ebd4b689d9f36282772e7b66ffb650de5effc82c1775ce57c2c23", func := "example.com/hushwire/hushwire/internal/dtls.LawS0222CModel", spec := "lawS0222CModel", named := ["encoding/binary.BigEndian"], apart := false }
def LawS0222CModelSaid : Prop := lawS0222CModelRow.holds Yba.pinned (OpenSpec.ofChange lawS0222CModelSpec)

/-- ITS FALSE NEIGHBOUR: 'it returns false'. Refute it at one input. -/
def lawS0222CModelWrong : ChangeSpec := { name := "lawS0222CModel", fn := fun _ => fun
  | [d] => { results := [.lit (.bool false)], args := [d] }
  | _ => none }
def LawS0222CModelWrongFalsely : Prop := lawS0222CModelRow.holds Yba.pinned (OpenSpec.ofChange lawS0222CModelWrong)

end Rows
end Go.Proofs.Ybulkdoo
