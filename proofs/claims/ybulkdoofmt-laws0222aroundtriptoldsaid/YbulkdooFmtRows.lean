/-
  NARROWER THAN 'FOR EVERY INPUT', by the rows' own cells (each row's printed sentence says how): LawS0222AName: laid · LawS0222ARoundTrip: laid.
  DERIVED. THE GIVEN ROWS OF THIS SEAT. 2 by the template 'for every input the law returns true; each argument reads behind the call as it read before'; 0 by the template 'total and deterministic' (their statements: YbulkdooFmtTotals.lean).
  GIVEN WITH THE SEED: the statements are not yours to turn. If you find one false, say at which input.
  Laid BY PROGRAM, IN A SANDBOX (cutbox-rows.mjs): the forced cells as the released guide's own fill.sh prints them over the translation 7f70d485cd59ab42… (all of the seat's roots in one cut). By AI agents, Wed Nov 11 2026. No macro, syntax, notation, axiom, sorry.
-/
import Derived.Test.YbulkdooFmtChecked
import GoSem.Claim
import GoSem.ClaimJoined
import GoSem.ClaimMapViews
import Derived.JoinedTies
import Derived.KernelRfl
namespace Go.Proofs.YbulkdooFmt
/- THE CELL 'sum', in the pinned program and in every row, IS THE sha256 OF THE DUMP (.gsa) THAT YbulkdooFmtProg.lean LOADS. Nothing in Lean hashes anything: it is a label: what it is worth is what the hold of that sum in a sandbox is worth. -/
noncomputable def Ybaf.pinned : Pinned := { name := "ybulkdoofmt", sum := "7f70d485cd59ab420291f62b4909faa8e71d6b55a543cb7ea7a71c1ccb3e59ce", checked := Ybaf.checked }
namespace Rows
def none {H : Type} : Left H := { results := [], args := [] }

/- WHAT THE LISTED PACKAGE-LEVEL VARIABLES READ AS WHEN THE CALL BEGINS. Each datum BY PROGRAM (the guide's laid-datum.mjs) off the statement by which the dump's own 'gosem.cut.vars' lays the variable. In a bare row this is a premise. The card (YbulkdooFmtCards.lean) ties it to the program's text. -/
def laid_example_com_hushwire_hushwire_srtp_profiles {H : Type} : DataW H := .slice [.agg [.lit (.int .u16 1), .lit (.string [83, 82, 84, 80, 95, 65, 69, 83, 49, 50, 56, 95, 67, 77, 95, 72, 77, 65, 67, 95, 83, 72, 65, 49, 95, 56, 48]), .lit (.int .u8 1), .lit (.int .i64 16), .lit (.int .i64 10)], .agg [.lit (.int .u16 2), .lit (.string [83, 82, 84, 80, 95, 65, 69, 83, 49, 50, 56, 95, 67, 77, 95, 72, 77, 65, 67, 95, 83, 72, 65, 49, 95, 51, 50]), .lit (.int .u8 1), .lit (.int .i64 16), .lit (.int .i64 4)], .agg [.lit (.int .u16 5), .lit (.string [83, 82, 84, 80, 95, 78, 85, 76, 76, 95, 72, 77, 65, 67, 95, 83, 72, 65, 49, 95, 56, 48]), .lit (.int .u8 0), .lit (.int .i64 16), .lit (.int .i64 10)], .agg [.lit (.int .u16 6), .lit (.string [83, 82, 84, 80, 95, 78, 85, 76, 76, 95, 72, 77, 65, 67, 95, 83, 72, 65, 49, 95, 51, 50]), .lit (.int .u8 0), .lit (.int .i64 16), .lit (.int .i64 4)], .agg [.lit (.int .u16 7), .lit (.string [83, 82, 84, 80, 95, 65, 69, 65, 68, 95, 65, 69, 83, 95, 49, 50, 56, 95, 71, 67, 77]), .lit (.int .u8 2), .lit (.int .i64 16), .lit (.int .i64 16)], .agg [.lit (.int .u16 8), .lit (.string [83, 82, 84, 80, 95, 65, 69, 65, 68, 95, 65, 69, 83, 95, 50, 53, 54, 95, 71, 67, 77]), .lit (.int .u8 2), .lit (.int .i64 32), .lit (.int .i64 16)]] []

/-- 'srtp.LawS0222AName': WHATEVER THE INPUT: true; the input reads as it did. -/
def lawS0222ANameSpec : ChangeSpec := { name := "lawS0222AName", vars := ["example.com/hushwire/hushwire/srtp.profiles"], fn := fun _ => fun
  | [d, g1] => { results := [.lit (.bool true)], args := [d], vars := [g1] }
  | _ => none }
def lawS0222ANameRow : OpenClaim := { program := "ybulkdoofmt", sum := "7f70d485cd59ab420291f62b4909faa8e71d6b55a543cb7ea7a71c1ccb3e59ce", func := "example.com/hushwire/hushwire/srtp.LawS0222AName", spec := "lawS0222AName", stops := ["fmt.Sprintf", "fmt.errorf"], inPlace := ["fmt.Sprintf"], unfollowed := true, recurses := true, named := ["example.com/hushwire/hushwire/srtp.profiles"], apart := false, laid := [("example.com/hushwire/hushwire/srtp.profiles", laid_example_com_hushwire_hushwire_srtp_profiles)] }
/-- NO THEOREM (fmt's text is open here; it may be false): for the released tool's asking of the row's closed facts alone. THE STATEMENT IS 'LawS0222ANameToldSaid' (YbulkdooFmtCards.lean). -/
def LawS0222ANameFormAsk : Prop := lawS0222ANameRow.holds Ybaf.pinned (OpenSpec.ofChange lawS0222ANameSpec)

/-- ITS FALSE NEIGHBOUR: 'it returns false'. Refute it at one input. -/
def lawS0222ANameWrong : ChangeSpec := { name := "lawS0222AName", vars := ["example.com/hushwire/hushwire/srtp.profiles"], fn := fun _ => fun
  | [d, g1] => { results := [.lit (.bool false)], args := [d], vars := [g1] }
  | _ => none }
def LawS0222ANameWrongFormAsk : Prop := lawS0222ANameRow.holds Ybaf.pinned (OpenSpec.ofChange lawS0222ANameWrong)

/-- 'srtp.LawS0222ARoundTrip': WHATEVER THE INPUT: true; the input reads as it did. -/
def lawS0222ARoundTripSpec : ChangeSpec := { name := "lawS0222ARoundTrip", vars := ["example.com/hushwire/hushwire/srtp.profiles"], fn := fun _ => fun
  | [d, g1] => { results := [.lit (.bool true)], args := [d], vars := [g1] }
  | _ => none }
def lawS0222ARoundTripRow : OpenClaim := { program := "ybulkdoofmt", sum := "7f70d485cd59ab420291f62b4909faa8e71d6b55a543cb7ea7a71c1ccb3e59ce", func := "example.com/hushwire/hushwire/srtp.LawS0222ARoundTrip", spec := "lawS0222ARoundTrip", stops := ["fmt.Sprintf", "fmt.errorf"], inPlace := ["fmt.Sprintf", "fmt.errorf"], unfollowed := true, recurses := true, named := ["example.com/hushwire/hushwire/srtp.profiles"], apart := false, laid := [("example.com/hushwire/hushwire/srtp.profiles", laid_example_com_hushwire_hushwire_srtp_profiles)] }
/-- NO THEOREM (fmt's text is open here; it may be false): for the released tool's asking of the row's closed facts alone. THE STATEMENT IS 'LawS0222ARoundTripToldSaid' (YbulkdooFmtCards.lean). -/
def LawS0222ARoundTripFormAsk : Prop := lawS0222ARoundTripRow.holds Ybaf.pinned (OpenSpec.ofChange lawS0222ARoundTripSpec)

/-- ITS FALSE NEIGHBOUR: 'it returns false'. Refute it at one input. -/
def lawS0222ARoundTripWrong : ChangeSpec := { name := "lawS0222ARoundTrip", vars := ["example.com/hushwire/hushwire/srtp.profiles"], fn := fun _ => fun
  | [d, g1] => { results := [.lit (.bool false)], args := [d], vars := [g1] }
  | _ => none }
def LawS0222ARoundTripWrongFormAsk : Prop := lawS0222ARoundTripRow.holds Ybaf.pinned (OpenSpec.ofChange lawS0222ARoundTripWrong)

end Rows
end Go.Proofs.YbulkdooFmt
