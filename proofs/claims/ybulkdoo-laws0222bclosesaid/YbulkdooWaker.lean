/- LawS0222BUndo and LawS0222BClose, shared: closed equations on operations, the contracts of the closures and of (*readWaker).undo; the walks of LawS0222BUndo. -/
import Derived.Test.YbulkdooRows
import Derived.WalkKit
import Derived.BigQuiet
import Derived.Deep.QuietTactic
import Derived.Laws.EntriesVeiled
import Derived.Conc.SmallLaws
import Derived.WalkSmall
namespace Go.Proofs.Ybulkdoo.Waker
open Go.RowKit Go.Conc

theorem mf (fn : Fn) (first cap : Array Value) (w : World) : (Instr.makeFunc fn first cap).run Yba.prog w = .ok (.func fn first cap) w := rfl
theorem bytes23 : (Yba.prog.info? 23).map (·.bytes) = some 0 := by kernel_rfl
theorem mk1 (w : World) : (Instr.makeChan 33 (.int .i64 1)).run Yba.prog w = .ok (.chan (some w.heap.size)) (w.alloc (.chan 1 #[] false 0 0 false)) := by
  obtain ⟨i, hi, hb⟩ := Option.map_eq_some_iff.1 bytes23
  simpa using run_makeChan (P := Yba.prog) (w := w) Yba.underlying33 hi .i64 1 (by omega) (by rw [hb]; omega)

theorem chan_eq (a b : Option Nat) (w : World) (d : Nat) : (Op.equalIn (d + 1) 30 (.chan a) (.chan b)).run Yba.prog w = .ok (a == b) w := by
  simp [Op.equalIn, run_underlying Yba.underlying30]
theorem chan_eql (a b : Option Nat) (w : World) : (binOp .eql 30 (.chan a) (.chan b)).run Yba.prog w = .ok (.bool (a == b)) w := by
  simp only [binOp]; simp [Op.equal, Op.maxDepth, chan_eq a b w 9999]
theorem chan_neq (a b : Option Nat) (w : World) : (binOp .neq 30 (.chan a) (.chan b)).run Yba.prog w = .ok (.bool (!(a == b))) w := by
  simp only [binOp]; simp [Op.equal, Op.maxDepth, chan_eq a b w 9999]
theorem fn_eql_nil (w : World) : (binOp .eql 1 .nilFunc .nilFunc).run Yba.prog w = .ok (.bool true) w := by
  have h : ∀ d : Nat, (Op.equalIn (d + 1) 1 .nilFunc .nilFunc).run Yba.prog w = .ok true w := fun d => by simp [Op.equalIn, run_underlying Yba.underlying1]
  simp only [binOp]; simp [Op.equal, Op.maxDepth, h 9999]
theorem fn_neq_nil (w : World) : (binOp .neq 1 .nilFunc .nilFunc).run Yba.prog w = .ok (.bool false) w := by
  have h : ∀ d : Nat, (Op.equalIn (d + 1) 1 .nilFunc .nilFunc).run Yba.prog w = .ok true w := fun d => by simp [Op.equalIn, run_underlying Yba.underlying1]
  simp only [binOp]; simp [Op.equal, Op.maxDepth, h 9999]
theorem fn_neq_some (f : Fn) (x y : Array Value) (w : World) : (binOp .neq 1 (.func f x y) .nilFunc).run Yba.prog w = .ok (.bool true) w := by
  have h : ∀ d : Nat, (Op.equalIn (d + 1) 1 (.func f x y) .nilFunc).run Yba.prog w = .ok false w := fun d => by simp [Op.equalIn, run_underlying Yba.underlying1]
  simp only [binOp]; simp [Op.equal, Op.maxDepth, h 9999]

set_option maxRecDepth 100000 in
theorem undo_nil (b : Nat) (x : Value) (w : World) (hd : w.cell? ⟨b, 2, none⟩ = some x) (hs : w.cell? ⟨b, 3, none⟩ = some .nilFunc) (f2 : w.frozen? ⟨b, 2, none⟩ = false) (f3 : w.frozen? ⟨b, 3, none⟩ = false) :
    Calls Yba.prog 8 #[.pointer (some ⟨b, 0, none⟩)] w fun e w' => e = .returned (.tuple #[]) ∧ w' = (w.setCell ⟨b, 2, none⟩ (.chan none)).setCell ⟨b, 3, none⟩ .nilFunc := by
  have e1 := fn_neq_nil
  go_enter Yba.func8, Yba.ntmps8
  go_wp2_with fail
  go_end0
  exact ⟨rfl, rfl⟩
set_option maxRecDepth 100000 in
theorem clos (b v h n s : Nat) (r : Option Nat) (w : World) (hd : w.cell? ⟨b, 2, none⟩ = some (.chan r)) (hv : w.cell? ⟨v, 0, none⟩ = some (.pointer (some ⟨b, 0, none⟩))) (hh : w.cell? ⟨h, 0, none⟩ = some (.chan r))
    (hn : w.cell? ⟨n, 0, none⟩ = some (.int .i64 0)) (fn : w.frozen? ⟨n, 0, none⟩ = false) (d1 : b ≠ n) (d2 : v ≠ n) (d3 : h ≠ n) :
    Calls Yba.prog 7 #[.pointer (some ⟨n, 0, none⟩), .pointer (some ⟨v, 0, none⟩), .pointer (some ⟨h, 0, none⟩), .pointer (some ⟨s, 0, none⟩)] w fun e w' => e = .returned (.tuple #[]) ∧ ∃ q, w' = (w.setCell ⟨n, 0, none⟩ (.int .i64 1)).drewN q := by
  have e1 := chan_neq r r
  have d1' : n ≠ b := d1.symm
  have d2' : n ≠ v := d2.symm
  have d3' : n ≠ h := d3.symm
  go_enter Yba.func7, Yba.ntmps7
  go_wp2_with fail
  go_quiet (fail)
  go_wp2
  go_end0
  exact ⟨rfl, _, rfl⟩
set_option maxRecDepth 100000 in
theorem undo_some (b v h n s : Nat) (r : Option Nat) (w : World) (hd : w.cell? ⟨b, 2, none⟩ = some (.chan r)) (hv : w.cell? ⟨v, 0, none⟩ = some (.pointer (some ⟨b, 0, none⟩))) (hh : w.cell? ⟨h, 0, none⟩ = some (.chan r))
    (hs : w.cell? ⟨b, 3, none⟩ = some (.func (.func 7) #[] #[.pointer (some ⟨n, 0, none⟩), .pointer (some ⟨v, 0, none⟩), .pointer (some ⟨h, 0, none⟩), .pointer (some ⟨s, 0, none⟩)])) (f2 : w.frozen? ⟨b, 2, none⟩ = false) (f3 : w.frozen? ⟨b, 3, none⟩ = false)
    (hn : w.cell? ⟨n, 0, none⟩ = some (.int .i64 0)) (fn : w.frozen? ⟨n, 0, none⟩ = false) (d1 : b ≠ n) (d2 : v ≠ n) (d3 : h ≠ n) :
    Calls Yba.prog 8 #[.pointer (some ⟨b, 0, none⟩)] w fun e w' => e = .returned (.tuple #[]) ∧ ∃ q, w' = (((w.setCell ⟨n, 0, none⟩ (.int .i64 1)).setCell ⟨b, 2, none⟩ (.chan none)).setCell ⟨b, 3, none⟩ .nilFunc).drewN q := by
  have e1 := fn_neq_some
  have d1' : n ≠ b := d1.symm
  go_enter Yba.func8, Yba.ntmps8
  go_wp2_with fail
  refine (clos b v h n s r w hd hv hh hn fn d1 d2 d3).mono ?_
  rintro e w' ⟨rfl, q, rfl⟩
  go_wp2_with fail
  go_end0
  exact ⟨rfl, _, rfl⟩

end Go.Proofs.Ybulkdoo.Waker
