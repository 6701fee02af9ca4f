/- LawS0222BUndo: the walks (four, by the two first bools). -/
import Derived.Test.YbulkdooWaker
namespace Go.Proofs.Ybulkdoo.Waker
open Go.RowKit Go.Conc

structure Inv (w : World) (b v h n s : Nat) (d f : Value) (r : Option Nat) (k : Int) (c : Bool) (w' : World) : Prop where
  bel : Below w.heap.size w w'
  lb : w.heap.size ≤ b
  ln : w.heap.size ≤ n
  nb : b ≠ n
  nv : v ≠ n
  nh : h ≠ n
  ns : s ≠ n
  bv : v ≠ b
  bh : h ≠ b
  bs : s ≠ b
  cd : w'.cell? ⟨b, 2, none⟩ = some d
  cf : w'.cell? ⟨b, 3, none⟩ = some f
  cc : w'.cell? ⟨b, 4, none⟩ = some (.bool c)
  cv : w'.cell? ⟨v, 0, none⟩ = some (.pointer (some ⟨b, 0, none⟩))
  ch : w'.cell? ⟨h, 0, none⟩ = some (.chan r)
  cn : w'.cell? ⟨n, 0, none⟩ = some (.int .i64 k)
  cs : w'.cell? ⟨s, 0, none⟩ = some (.bool true)
  f2 : w'.frozen? ⟨b, 2, none⟩ = false
  f3 : w'.frozen? ⟨b, 3, none⟩ = false
  fn : w'.frozen? ⟨n, 0, none⟩ = false

abbrev clo (v h n s : Nat) : Value := .func (.func 7) #[] #[.pointer (some ⟨n, 0, none⟩), .pointer (some ⟨v, 0, none⟩), .pointer (some ⟨h, 0, none⟩), .pointer (some ⟨s, 0, none⟩)]

theorem inv_nil {w : World} {b v h n s : Nat} {d : Value} {r : Option Nat} {k : Int} {c : Bool} {w' : World} (I : Inv w b v h n s d .nilFunc r k c w') :
    Inv w b v h n s (.chan none) .nilFunc r k c ((w'.setCell ⟨b, 2, none⟩ (.chan none)).setCell ⟨b, 3, none⟩ .nilFunc) := by
  obtain ⟨bel, lb, ln, nb, nv, nh, ns, bv, bh, bs, cd, cf, cc, cv, ch, cn, cs, f2, f3, fn⟩ := I
  have nb' := nb.symm
  have bv' := bv.symm
  have bh' := bh.symm
  have bs' := bs.symm
  exact ⟨(bel.setCell lb _).setCell lb _, lb, ln, nb, nv, nh, ns, bv, bh, bs, by go_simp, by go_simp, by go_simp, by go_simp, by go_simp, by go_simp, by go_simp, by go_simp, by go_simp, by go_simp⟩
theorem inv_drewN {w : World} {b v h n s : Nat} {d f : Value} {r : Option Nat} {k : Int} {c : Bool} {w' : World} (I : Inv w b v h n s d f r k c w') (q : Nat) : Inv w b v h n s d f r k c (w'.drewN q) :=
  ⟨below_drewN I.bel q, I.lb, I.ln, I.nb, I.nv, I.nh, I.ns, I.bv, I.bh, I.bs, I.cd, I.cf, I.cc, I.cv, I.ch, I.cn, I.cs, I.f2, I.f3, I.fn⟩
theorem inv_some {w : World} {b v h n s : Nat} {d f : Value} {r : Option Nat} {c : Bool} {w' : World} (I : Inv w b v h n s d f r 0 c w') :
    Inv w b v h n s (.chan none) .nilFunc r 1 c (((w'.setCell ⟨n, 0, none⟩ (.int .i64 1)).setCell ⟨b, 2, none⟩ (.chan none)).setCell ⟨b, 3, none⟩ .nilFunc) := by
  obtain ⟨bel, lb, ln, nb, nv, nh, ns, bv, bh, bs, cd, cf, cc, cv, ch, cn, cs, f2, f3, fn⟩ := I
  have nb' := nb.symm
  have bv' := bv.symm
  have bh' := bh.symm
  have bs' := bs.symm
  have nv' := nv.symm
  have nh' := nh.symm
  have ns' := ns.symm
  exact ⟨((bel.setCell ln _).setCell lb _).setCell lb _, lb, ln, nb, nv, nh, ns, bv, bh, bs, by go_simp, by go_simp, by go_simp, by go_simp, by go_simp, by go_simp, by go_simp, by go_simp, by go_simp, by go_simp⟩

theorem undo_inv_nil {w : World} {b v h n s : Nat} {d : Value} {r : Option Nat} {k : Int} {c : Bool} {w' : World} (I : Inv w b v h n s d .nilFunc r k c w') :
    Calls Yba.prog 8 #[.pointer (some ⟨b, 0, none⟩)] w' fun e w'' => e = .returned (.tuple #[]) ∧ Inv w b v h n s (.chan none) .nilFunc r k c w'' :=
  (undo_nil b d w' I.cd I.cf I.f2 I.f3).mono fun _ _ ⟨he, hw⟩ => ⟨he, hw ▸ inv_nil I⟩
theorem undo_inv_some {w : World} {b v h n s : Nat} {r : Option Nat} {c : Bool} {w' : World} (I : Inv w b v h n s (.chan r) (clo v h n s) r 0 c w') :
    Calls Yba.prog 8 #[.pointer (some ⟨b, 0, none⟩)] w' fun e w'' => e = .returned (.tuple #[]) ∧ Inv w b v h n s (.chan none) .nilFunc r 1 c w'' :=
  (undo_some b v h n s r w' I.cd I.cv I.ch I.cf I.f2 I.f3 I.cn I.fn I.nb I.nv I.nh).mono fun _ _ ⟨he, q, hw⟩ => ⟨he, hw ▸ inv_drewN (inv_some I) q⟩

set_option maxRecDepth 100000 in
theorem walk_nn (c : Bool) (k : Int) (w : World) (h0 : 0 ≤ k) (h1 : k ≤ 255) :
    Calls Yba.prog 3 #[.bool false, .bool false, .bool c, .int .u8 k] w fun e w' => e = .returned (.bool true) ∧ Below w.heap.size w w' := by
  have hmf := mf
  have hmk := mk1
  have hm : k % 3 < 3 := by omega
  have hm0 : 0 ≤ k % 3 := by omega
  go_enter Yba.func3, Yba.ntmps3
  go_wp2_with fail
  go_loopw [14] (fun i w' => ∃ j : Nat, (j : Int) ≤ 1 + k % 3 ∧ i = .int .i64 j ∧ ((j = 0 ∧ Inv w w.heap.size (w.heap.size + 1) (w.heap.size + 1 + 1) (w.heap.size + 1 + 1 + 1) (w.heap.size + 1 + 1 + 1 + 1) (.chan none) .nilFunc none 0 c w') ∨
      (1 ≤ j ∧ Inv w w.heap.size (w.heap.size + 1) (w.heap.size + 1 + 1) (w.heap.size + 1 + 1 + 1) (w.heap.size + 1 + 1 + 1 + 1) (.chan none) .nilFunc none 0 c w'))) (fun i _ => (1 + k % 3).toNat - (intOf i).toNat)
  case atStart =>
    refine ⟨0, by omega, rfl, .inl ⟨rfl, ?_⟩⟩
    refine ⟨(((((Below.refl _ _).alloc (Nat.le_refl _) _).alloc (by simp) _).alloc (by simp; omega) _).alloc (by simp; omega) _).alloc (by simp; omega) _, by omega, by omega, by omega, by omega, by omega, by omega, by omega, by omega, by omega, ?_, ?_, ?_, ?_, ?_, ?_, ?_, ?_, ?_, ?_⟩
    all_goals go_simp
  case round =>
    obtain ⟨j, hj, rfl, hI⟩ := hrel
    rcases hI with ⟨rfl, I⟩ | ⟨hj1, I⟩
    · have cv := I.cv
      have I' : Hid _ := I
      clear I
      go_wp2_with fail
      refine (undo_inv_nil I'.out).mono ?_
      rintro e w2 ⟨rfl, I2⟩
      have I2' : Hid _ := I2
      clear I2
      go_wp2_with fail
      go_roundw
      case rel => exact ⟨1, by omega, by go_num, .inr ⟨by omega, I2'.out⟩⟩
      case measure => simp [intOf]; omega
    · by_cases hlt : (j : Int) < 1 + k % 3
      · have cv := I.cv
        have I' : Hid _ := I
        clear I
        go_wp2_with fail
        refine (undo_inv_nil I'.out).mono ?_
        rintro e w2 ⟨rfl, I2⟩
        have I2' : Hid _ := I2
        clear I2
        go_wp2_with fail
        go_roundw
        case rel => exact ⟨j + 1, by omega, by go_num, .inr ⟨by omega, I2'.out⟩⟩
        case measure => simp [intOf]; omega
      · obtain ⟨bel, lb, ln, nb, nv, nh, ns, bv, bh, bs, cd, cf, cc, cv, ch, cn, cs, f2, f3, fn⟩ := I
        have e1 := chan_eql none none
        have e2 := fn_eql_nil
        go_wp2_with fail
        go_ret
        exact ⟨by simp, bel⟩

set_option maxRecDepth 100000 in
theorem walk_ns (c : Bool) (k : Int) (w : World) (h0 : 0 ≤ k) (h1 : k ≤ 255) :
    Calls Yba.prog 3 #[.bool false, .bool true, .bool c, .int .u8 k] w fun e w' => e = .returned (.bool true) ∧ Below w.heap.size w w' := by
  have hmf := mf
  have hmk := mk1
  have hm : k % 3 < 3 := by omega
  have hm0 : 0 ≤ k % 3 := by omega
  go_enter Yba.func3, Yba.ntmps3
  go_wp2_with fail
  go_loopw [14] (fun i w' => ∃ j : Nat, (j : Int) ≤ 1 + k % 3 ∧ i = .int .i64 j ∧ ((j = 0 ∧ Inv w w.heap.size (w.heap.size + 1) (w.heap.size + 1 + 1) (w.heap.size + 1 + 1 + 1) (w.heap.size + 1 + 1 + 1 + 1) (.chan none) (clo (w.heap.size + 1) (w.heap.size + 1 + 1) (w.heap.size + 1 + 1 + 1) (w.heap.size + 1 + 1 + 1 + 1)) none 0 c w') ∨
      (1 ≤ j ∧ Inv w w.heap.size (w.heap.size + 1) (w.heap.size + 1 + 1) (w.heap.size + 1 + 1 + 1) (w.heap.size + 1 + 1 + 1 + 1) (.chan none) .nilFunc none 1 c w'))) (fun i _ => (1 + k % 3).toNat - (intOf i).toNat)
  case atStart =>
    refine ⟨0, by omega, rfl, .inl ⟨rfl, ?_⟩⟩
    refine ⟨(((((Below.refl _ _).alloc (Nat.le_refl _) _).alloc (by simp) _).alloc (by simp; omega) _).alloc (by simp; omega) _).alloc (by simp; omega) _, by omega, by omega, by omega, by omega, by omega, by omega, by omega, by omega, by omega, ?_, ?_, ?_, ?_, ?_, ?_, ?_, ?_, ?_, ?_⟩
    all_goals go_simp
  case round =>
    obtain ⟨j, hj, rfl, hI⟩ := hrel
    rcases hI with ⟨rfl, I⟩ | ⟨hj1, I⟩
    · have cv := I.cv
      have I' : Hid _ := I
      clear I
      go_wp2_with fail
      refine (undo_inv_some I'.out).mono ?_
      rintro e w2 ⟨rfl, I2⟩
      have I2' : Hid _ := I2
      clear I2
      go_wp2_with fail
      go_roundw
      case rel => exact ⟨1, by omega, by go_num, .inr ⟨by omega, I2'.out⟩⟩
      case measure => simp [intOf]; omega
    · by_cases hlt : (j : Int) < 1 + k % 3
      · have cv := I.cv
        have I' : Hid _ := I
        clear I
        go_wp2_with fail
        refine (undo_inv_nil I'.out).mono ?_
        rintro e w2 ⟨rfl, I2⟩
        have I2' : Hid _ := I2
        clear I2
        go_wp2_with fail
        go_roundw
        case rel => exact ⟨j + 1, by omega, by go_num, .inr ⟨by omega, I2'.out⟩⟩
        case measure => simp [intOf]; omega
      · obtain ⟨bel, lb, ln, nb, nv, nh, ns, bv, bh, bs, cd, cf, cc, cv, ch, cn, cs, f2, f3, fn⟩ := I
        have e1 := chan_eql none none
        have e2 := fn_eql_nil
        go_wp2_with fail
        go_ret
        exact ⟨by simp, bel⟩

set_option maxRecDepth 100000 in
theorem walk_dn (c : Bool) (k : Int) (w : World) (h0 : 0 ≤ k) (h1 : k ≤ 255) :
    Calls Yba.prog 3 #[.bool true, .bool false, .bool c, .int .u8 k] w fun e w' => e = .returned (.bool true) ∧ Below w.heap.size w w' := by
  have hmf := mf
  have hmk := mk1
  have hm : k % 3 < 3 := by omega
  have hm0 : 0 ≤ k % 3 := by omega
  go_enter Yba.func3, Yba.ntmps3
  go_wp2_with fail
  go_loopw [14] (fun i w' => ∃ j : Nat, (j : Int) ≤ 1 + k % 3 ∧ i = .int .i64 j ∧ ((j = 0 ∧ Inv w w.heap.size (w.heap.size + 1) (w.heap.size + 1 + 1) (w.heap.size + 1 + 1 + 1 + 1) (w.heap.size + 1 + 1 + 1 + 1 + 1) (.chan (some (w.heap.size + 1 + 1 + 1))) .nilFunc (some (w.heap.size + 1 + 1 + 1)) 0 c w') ∨
      (1 ≤ j ∧ Inv w w.heap.size (w.heap.size + 1) (w.heap.size + 1 + 1) (w.heap.size + 1 + 1 + 1 + 1) (w.heap.size + 1 + 1 + 1 + 1 + 1) (.chan none) .nilFunc (some (w.heap.size + 1 + 1 + 1)) 0 c w'))) (fun i _ => (1 + k % 3).toNat - (intOf i).toNat)
  case atStart =>
    refine ⟨0, by omega, rfl, .inl ⟨rfl, ?_⟩⟩
    refine ⟨((((((Below.refl _ _).alloc (Nat.le_refl _) _).alloc (by simp) _).alloc (by simp; omega) _).alloc (by simp; omega) _).alloc (by simp; omega) _).alloc (by simp; omega) _, by omega, by omega, by omega, by omega, by omega, by omega, by omega, by omega, by omega, ?_, ?_, ?_, ?_, ?_, ?_, ?_, ?_, ?_, ?_⟩
    all_goals go_simp
  case round =>
    obtain ⟨j, hj, rfl, hI⟩ := hrel
    rcases hI with ⟨rfl, I⟩ | ⟨hj1, I⟩
    · have cv := I.cv
      have I' : Hid _ := I
      clear I
      go_wp2_with fail
      refine (undo_inv_nil I'.out).mono ?_
      rintro e w2 ⟨rfl, I2⟩
      have I2' : Hid _ := I2
      clear I2
      go_wp2_with fail
      go_roundw
      case rel => exact ⟨1, by omega, by go_num, .inr ⟨by omega, I2'.out⟩⟩
      case measure => simp [intOf]; omega
    · by_cases hlt : (j : Int) < 1 + k % 3
      · have cv := I.cv
        have I' : Hid _ := I
        clear I
        go_wp2_with fail
        refine (undo_inv_nil I'.out).mono ?_
        rintro e w2 ⟨rfl, I2⟩
        have I2' : Hid _ := I2
        clear I2
        go_wp2_with fail
        go_roundw
        case rel => exact ⟨j + 1, by omega, by go_num, .inr ⟨by omega, I2'.out⟩⟩
        case measure => simp [intOf]; omega
      · obtain ⟨bel, lb, ln, nb, nv, nh, ns, bv, bh, bs, cd, cf, cc, cv, ch, cn, cs, f2, f3, fn⟩ := I
        have e1 := chan_eql none none
        have e2 := fn_eql_nil
        go_wp2_with fail
        go_ret
        exact ⟨by simp, bel⟩

set_option maxRecDepth 100000 in
theorem walk_ds (c : Bool) (k : Int) (w : World) (h0 : 0 ≤ k) (h1 : k ≤ 255) :
    Calls Yba.prog 3 #[.bool true, .bool true, .bool c, .int .u8 k] w fun e w' => e = .returned (.bool true) ∧ Below w.heap.size w w' := by
  have hmf := mf
  have hmk := mk1
  have hm : k % 3 < 3 := by omega
  have hm0 : 0 ≤ k % 3 := by omega
  go_enter Yba.func3, Yba.ntmps3
  go_wp2_with fail
  go_loopw [14] (fun i w' => ∃ j : Nat, (j : Int) ≤ 1 + k % 3 ∧ i = .int .i64 j ∧ ((j = 0 ∧ Inv w w.heap.size (w.heap.size + 1) (w.heap.size + 1 + 1) (w.heap.size + 1 + 1 + 1 + 1) (w.heap.size + 1 + 1 + 1 + 1 + 1) (.chan (some (w.heap.size + 1 + 1 + 1))) (clo (w.heap.size + 1) (w.heap.size + 1 + 1) (w.heap.size + 1 + 1 + 1 + 1) (w.heap.size + 1 + 1 + 1 + 1 + 1)) (some (w.heap.size + 1 + 1 + 1)) 0 c w') ∨
      (1 ≤ j ∧ Inv w w.heap.size (w.heap.size + 1) (w.heap.size + 1 + 1) (w.heap.size + 1 + 1 + 1 + 1) (w.heap.size + 1 + 1 + 1 + 1 + 1) (.chan none) .nilFunc (some (w.heap.size + 1 + 1 + 1)) 1 c w'))) (fun i _ => (1 + k % 3).toNat - (intOf i).toNat)
  case atStart =>
    refine ⟨0, by omega, rfl, .inl ⟨rfl, ?_⟩⟩
    refine ⟨((((((Below.refl _ _).alloc (Nat.le_refl _) _).alloc (by simp) _).alloc (by simp; omega) _).alloc (by simp; omega) _).alloc (by simp; omega) _).alloc (by simp; omega) _, by omega, by omega, by omega, by omega, by omega, by omega, by omega, by omega, by omega, ?_, ?_, ?_, ?_, ?_, ?_, ?_, ?_, ?_, ?_⟩
    all_goals go_simp
  case round =>
    obtain ⟨j, hj, rfl, hI⟩ := hrel
    rcases hI with ⟨rfl, I⟩ | ⟨hj1, I⟩
    · have cv := I.cv
      have I' : Hid _ := I
      clear I
      go_wp2_with fail
      refine (undo_inv_some I'.out).mono ?_
      rintro e w2 ⟨rfl, I2⟩
      have I2' : Hid _ := I2
      clear I2
      go_wp2_with fail
      go_roundw
      case rel => exact ⟨1, by omega, by go_num, .inr ⟨by omega, I2'.out⟩⟩
      case measure => simp [intOf]; omega
    · by_cases hlt : (j : Int) < 1 + k % 3
      · have cv := I.cv
        have I' : Hid _ := I
        clear I
        go_wp2_with fail
        refine (undo_inv_nil I'.out).mono ?_
        rintro e w2 ⟨rfl, I2⟩
        have I2' : Hid _ := I2
        clear I2
        go_wp2_with fail
        go_roundw
        case rel => exact ⟨j + 1, by omega, by go_num, .inr ⟨by omega, I2'.out⟩⟩
        case measure => simp [intOf]; omega
      · obtain ⟨bel, lb, ln, nb, nv, nh, ns, bv, bh, bs, cd, cf, cc, cv, ch, cn, cs, f2, f3, fn⟩ := I
        have e1 := chan_eql none none
        have e2 := fn_eql_nil
        go_wp2_with fail
        go_ret
        exact ⟨by simp, bel⟩

end Go.Proofs.Ybulkdoo.Waker
