/- LawS0222BClose: the closure, (*readWaker).undo and (*readWaker).close under the lock, and the walks. -/
import Derived.Test.YbulkdooWaker
import Derived.Test.YbulkdooLocks
import Derived.Conc.MuLone
import Derived.Defers
namespace Go.Proofs.Ybulkdoo.Waker
open Go.RowKit Go.Conc Go.MuLone

set_option maxRecDepth 100000 in
theorem clos9 (n : Nat) (w : World) (hn : w.cell? ⟨n, 0, none⟩ = some (.int .i64 0)) (fn : w.frozen? ⟨n, 0, none⟩ = false) :
    Calls Yba.prog 9 #[.pointer (some ⟨n, 0, none⟩)] w fun e w' => e = .returned (.tuple #[]) ∧ w' = w.setCell ⟨n, 0, none⟩ (.int .i64 1) := by
  go_enter Yba.func9, Yba.ntmps9
  go_wp2
  go_end0
  exact ⟨rfl, rfl⟩

set_option maxRecDepth 100000 in
theorem undo_nine (b n : Nat) (x : Value) (w : World) (hd : w.cell? ⟨b, 2, none⟩ = some x)
    (hs : w.cell? ⟨b, 3, none⟩ = some (.func (.func 9) #[] #[.pointer (some ⟨n, 0, none⟩)])) (f2 : w.frozen? ⟨b, 2, none⟩ = false) (f3 : w.frozen? ⟨b, 3, none⟩ = false)
    (hn : w.cell? ⟨n, 0, none⟩ = some (.int .i64 0)) (fn : w.frozen? ⟨n, 0, none⟩ = false) (d1 : b ≠ n) :
    Calls Yba.prog 8 #[.pointer (some ⟨b, 0, none⟩)] w fun e w' => e = .returned (.tuple #[]) ∧ w' = ((w.setCell ⟨n, 0, none⟩ (.int .i64 1)).setCell ⟨b, 2, none⟩ (.chan none)).setCell ⟨b, 3, none⟩ .nilFunc := by
  have e1 := fn_neq_some
  have d1' : n ≠ b := d1.symm
  go_enter Yba.func8, Yba.ntmps8
  go_wp2_with fail
  refine (clos9 n w hn fn).mono ?_
  rintro e w' ⟨rfl, rfl⟩
  go_wp2_with fail
  go_end0
  exact ⟨rfl, rfl⟩

set_option maxRecDepth 100000 in
theorem close_nil (b : Nat) (x : Value) (c : Bool) (w : World) (h0 : w.cell? ⟨b, 0, none⟩ = some (.int .i32 0)) (hd : w.cell? ⟨b, 2, none⟩ = some x) (hs : w.cell? ⟨b, 3, none⟩ = some .nilFunc) (h4 : w.cell? ⟨b, 4, none⟩ = some (.bool c))
    (f0 : w.frozen? ⟨b, 0, none⟩ = false) (f2 : w.frozen? ⟨b, 2, none⟩ = false) (f3 : w.frozen? ⟨b, 3, none⟩ = false) (f4 : w.frozen? ⟨b, 4, none⟩ = false) :
    Calls Yba.prog 10 #[.pointer (some ⟨b, 0, none⟩)] w fun e w' => e = .returned (.tuple #[]) ∧
      w' = ((((w.setCell ⟨b, 0, none⟩ (.int .i32 1)).setCell ⟨b, 2, none⟩ (.chan none)).setCell ⟨b, 3, none⟩ .nilFunc).setCell ⟨b, 4, none⟩ (.bool true)).setCell ⟨b, 0, none⟩ (.int .i32 0) := by
  go_enter_defers Yba.func10, Yba.ntmps10
  go_wp2_with (go_at_call 16; refine (lock_free muLib ⟨b, 0, none⟩ _ h0 f0).mono ?_; rintro e w' ⟨rfl, rfl⟩)
  refine (undo_nil b x _ (by go_simp) (by go_simp) (by go_simp) (by go_simp)).mono ?_
  rintro e w' ⟨rfl, rfl⟩
  go_wp2_with fail
  refine leaves_cons (f := 17) (args := #[.pointer (some ⟨b, 0, none⟩)]) (by simp) (by simp [go_sem]) ?_
  refine (unlock_deferred muLib ⟨b, 0, none⟩ .returning _ (by go_simp) (by go_simp)).mono ?_
  rintro e u' w'' ⟨rfl, rfl, rfl⟩
  exact ⟨_, results_none rfl _ _ _, rfl, rfl⟩

set_option maxRecDepth 100000 in
theorem close_nine (b n : Nat) (x : Value) (c : Bool) (w : World) (h0 : w.cell? ⟨b, 0, none⟩ = some (.int .i32 0)) (hd : w.cell? ⟨b, 2, none⟩ = some x) (hs : w.cell? ⟨b, 3, none⟩ = some (.func (.func 9) #[] #[.pointer (some ⟨n, 0, none⟩)])) (h4 : w.cell? ⟨b, 4, none⟩ = some (.bool c))
    (hn : w.cell? ⟨n, 0, none⟩ = some (.int .i64 0)) (fn : w.frozen? ⟨n, 0, none⟩ = false) (d1 : b ≠ n)
    (f0 : w.frozen? ⟨b, 0, none⟩ = false) (f2 : w.frozen? ⟨b, 2, none⟩ = false) (f3 : w.frozen? ⟨b, 3, none⟩ = false) (f4 : w.frozen? ⟨b, 4, none⟩ = false) :
    Calls Yba.prog 10 #[.pointer (some ⟨b, 0, none⟩)] w fun e w' => e = .returned (.tuple #[]) ∧
      w' = (((((w.setCell ⟨b, 0, none⟩ (.int .i32 1)).setCell ⟨n, 0, none⟩ (.int .i64 1)).setCell ⟨b, 2, none⟩ (.chan none)).setCell ⟨b, 3, none⟩ .nilFunc).setCell ⟨b, 4, none⟩ (.bool true)).setCell ⟨b, 0, none⟩ (.int .i32 0) := by
  have d1' : n ≠ b := d1.symm
  go_enter_defers Yba.func10, Yba.ntmps10
  go_wp2_with (go_at_call 16; refine (lock_free muLib ⟨b, 0, none⟩ _ h0 f0).mono ?_; rintro e w' ⟨rfl, rfl⟩)
  refine (undo_nine b n x _ (by go_simp) (by go_simp) (by go_simp) (by go_simp) (by go_simp) (by go_simp) d1).mono ?_
  rintro e w' ⟨rfl, rfl⟩
  go_wp2_with fail
  refine leaves_cons (f := 17) (args := #[.pointer (some ⟨b, 0, none⟩)]) (by simp) (by simp [go_sem]) ?_
  refine (unlock_deferred muLib ⟨b, 0, none⟩ .returning _ (by go_simp) (by go_simp)).mono ?_
  rintro e u' w'' ⟨rfl, rfl, rfl⟩
  exact ⟨_, results_none rfl _ _ _, rfl, rfl⟩

theorem bel_new (w : World) (o1 o2 : Obj) : Below w.heap.size w ((w.alloc o1).alloc o2) :=
  ((Below.refl _ _).alloc (Nat.le_refl _) _).alloc (by simp) _
theorem bel_new3 (w : World) (o1 o2 o3 : Obj) : Below w.heap.size w (((w.alloc o1).alloc o2).alloc o3) :=
  (bel_new w o1 o2).alloc (by simp; omega) _

set_option maxRecDepth 100000 in
theorem cwalk_n (d c : Bool) (w : World) :
    Calls Yba.prog 4 #[.bool d, .bool false, .bool c] w fun e w' => e = .returned (.bool true) ∧ Below w.heap.size w w' := by
  have hmf := mf
  have hmk := mk1
  have e1 := chan_eql none none
  have e2 := fn_eql_nil
  cases d
  all_goals
    go_enter Yba.func4, Yba.ntmps4
    go_wp2_with fail
    refine (close_nil w.heap.size _ c _ (by go_simp) (by go_simp; rfl) (by go_simp) (by go_simp) (by go_simp) (by go_simp) (by go_simp) (by go_simp)).mono ?_
    rintro e w' ⟨rfl, rfl⟩
    go_wp2_with fail
    go_ret
    first
    | exact ⟨rfl, bel_new _ _ _⟩
    | exact ⟨rfl, bel_new3 _ _ _ _⟩

set_option maxRecDepth 100000 in
theorem cwalk_ns (c : Bool) (w : World) :
    Calls Yba.prog 4 #[.bool false, .bool true, .bool c] w fun e w' => e = .returned (.bool true) ∧ Below w.heap.size w w' := by
  have hmf := mf
  have e1 := chan_eql none none
  have e2 := fn_eql_nil
  go_enter Yba.func4, Yba.ntmps4
  go_wp2_with fail
  refine (close_nine w.heap.size (w.heap.size + 1) _ c _ (by go_simp) (by go_simp; rfl) (by go_simp) (by go_simp) (by go_simp) (by go_simp) (by omega) (by go_simp) (by go_simp) (by go_simp) (by go_simp)).mono ?_
  rintro e w' ⟨rfl, rfl⟩
  go_wp2_with fail
  go_ret
  exact ⟨rfl, bel_new _ _ _⟩

set_option maxRecDepth 100000 in
theorem cwalk_ds (c : Bool) (w : World) :
    Calls Yba.prog 4 #[.bool true, .bool true, .bool c] w fun e w' => e = .returned (.bool true) ∧ Below w.heap.size w w' := by
  have hmf := mf
  have hmk := mk1
  have e1 := chan_eql none none
  have e2 := fn_eql_nil
  go_enter Yba.func4, Yba.ntmps4
  go_wp2_with fail
  refine (close_nine w.heap.size (w.heap.size + 1 + 1) _ c _ (by go_simp) (by go_simp; rfl) (by go_simp) (by go_simp) (by go_simp) (by go_simp) (by omega) (by go_simp) (by go_simp) (by go_simp) (by go_simp)).mono ?_
  rintro e w' ⟨rfl, rfl⟩
  go_wp2_with fail
  go_ret
  exact ⟨rfl, bel_new3 _ _ _ _⟩
end Go.Proofs.Ybulkdoo.Waker
