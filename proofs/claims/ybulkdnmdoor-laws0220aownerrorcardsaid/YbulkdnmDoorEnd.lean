/- Shared by both cards of this seat: the contracts of '(*Tx).endError' (function 7), closed facts on the program's tables, and what the condition 'laid' gives. -/
import Derived.Test.YbulkdnmDoorRows
import Derived.WalkKit
import Derived.WalkSmall
import Derived.ProofKit
import Derived.OpenShut
import Derived.LaidEql
import Derived.LaidEqlPtr
import Derived.LaidMore
import Derived.Stop.Joined
import Derived.Stop.LaidErr
namespace Go.Proofs.YbulkdnmDoor
open Go.ChangeShapes Go.WideShapes Go.ChangeAt Go.RowKit

theorem own : ownKnob Ybad.prog.godebug = none := by kernel_rfl
/- The variables' names, off the given specification. -/
abbrev nClosed : String := Rows.lawS0220AChoiceSpec.vars.getD 0 ""
abbrev nReadOnly : String := Rows.lawS0220AChoiceSpec.vars.getD 1 ""
abbrev nEnded : String := Rows.lawS0220AChoiceSpec.vars.getD 2 ""
/- The name of the sentinels' dynamic type, off the given datum. -/
abbrev nErr : String := match (Rows.laid_example_com_estampilla_estampilla_ErrEnded : DataW Unit) with
  | .iface n _ => n
  | _ => ""
theorem gClosed : Ybad.prog.globalNamed nClosed = some 0 := by kernel_rfl
theorem gReadOnly : Ybad.prog.globalNamed nReadOnly = some 1 := by kernel_rfl
theorem gEnded : Ybad.prog.globalNamed nEnded = some 2 := by kernel_rfl
theorem tClosed : (Ybad.prog.globals[0]?).map (·.type) = some 23 := by kernel_rfl
theorem tReadOnly : (Ybad.prog.globals[1]?).map (·.type) = some 23 := by kernel_rfl
theorem tEnded : (Ybad.prog.globals[2]?).map (·.type) = some 23 := by kernel_rfl
theorem cells85 : Ybad.prog.cellsOf 85 = 1 := by kernel_rfl
theorem cells9 : Ybad.prog.cellsOf 9 = 1 := by kernel_rfl
theorem star : "*" ++ "errors.errorString" = nErr := by decide
theorem row83 (u : TypeId) (h : Ybad.prog.typeName? 3 u = some nErr) : u = 83 :=
  typeName_ptr_named (nm := "errors.errorString") (by rw [star]; kernel_rfl) (by kernel_rfl) (by decide) u (by rw [star]; exact h)
theorem comp83 : (Ybad.prog.info? 83).map (·.comparable) = some true := by kernel_rfl
theorem size85 : (Ybad.prog.info? 85).map (·.size) = some 1 := by kernel_rfl

theorem endError_nil (b : Nat) (v : Value) (w : World) (hc : w.cell? ⟨b, 10, none⟩ = some .nilIface) (hg : w.cell? ⟨2, 0, none⟩ = some v) :
    Calls Ybad.prog 7 #[.pointer (some ⟨b, 0, none⟩)] w fun e w' => e = .returned v ∧ w' = w := by
  go_enter Ybad.func7, Ybad.ntmps7
  go_wp2
  go_ret
  exact ⟨rfl, rfl⟩

theorem endError_some (b : Nat) (t : TypeId) (v : Value) (w : World) (hc : w.cell? ⟨b, 10, none⟩ = some (.iface t v)) :
    Calls Ybad.prog 7 #[.pointer (some ⟨b, 0, none⟩)] w fun e w' => e = .returned (.iface t v) ∧ w' = w := by
  go_enter Ybad.func7, Ybad.ntmps7
  go_wp2
  go_ret
  exact ⟨rfl, rfl⟩

end Go.Proofs.YbulkdnmDoor
