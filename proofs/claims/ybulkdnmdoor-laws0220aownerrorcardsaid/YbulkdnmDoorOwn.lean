/- LawS0220AOwnError: the walks, the row, the tied card. -/
import Derived.Test.YbulkdnmDoorEnd
import Derived.Test.YbulkdnmDoorTie
import Derived.Test.YbulkdnmDoorCards
namespace Go.Proofs.YbulkdnmDoor
open Go.ChangeShapes Go.WideShapes Go.ChangeAt Go.RowKit

theorem assert41 (v : Value) (w : World) : (Instr.typeAssert (.iface 41 v) 23 41 true).run Ybad.prog w = .ok (.tuple #[v, .bool true]) w := by kernel_rfl
theorem size43 : (Ybad.prog.info? 43).map (·.size) = some 1 := by kernel_rfl

set_option maxRecDepth 100000 in
theorem own_no (n : Int) (a : Addr) (w : World) (h2 : 2 < w.heap.size) (hg : w.cell? ⟨2, 0, none⟩ = some (.iface 83 (.pointer (some a)))) :
    Calls Ybad.prog 4 #[.int .i64 n, .bool false] w fun e w' => e = .returned (.bool true) ∧ Below w.heap.size w w' := by
  obtain ⟨i, hi, hcmp⟩ := Option.map_eq_some_iff.1 comp83
  obtain ⟨j, hj, hjs⟩ := Option.map_eq_some_iff.1 size85
  go_enter Ybad.func4, Ybad.ntmps4
  go_wp2_with fail
  refine (endError_nil w.heap.size (.iface 83 (.pointer (some a))) _ (by go_simp) (by go_simp)).mono ?_
  rintro e w' ⟨rfl, rfl⟩
  go_wp2_with fail
  rw [run_eql_iface_ptr_same _ a Ybad.underlying23 Ybad.underlying83 hi hcmp hj]
  go_wp2
  go_ret
  exact ⟨rfl, (Below.refl _ _).alloc (Nat.le_refl _) _⟩

set_option maxRecDepth 100000 in
theorem own_yes (n : Int) (w : World) :
    Calls Ybad.prog 4 #[.int .i64 n, .bool true] w fun e w' => e = .returned (.bool true) ∧ Below w.heap.size w w' := by
  obtain ⟨j, hj, hjs⟩ := Option.map_eq_some_iff.1 size43
  go_enter Ybad.func4, Ybad.ntmps4
  go_wp2_with fail
  refine (endError_some w.heap.size 41 (.pointer (some ⟨w.heap.size + 1, 0, none⟩)) _ (by go_simp)).mono ?_
  rintro e w' ⟨rfl, rfl⟩
  go_wp2_with fail
  rw [assert41]
  go_wp2_with fail
  rw [run_eql_ptr_same _ _ Ybad.underlying41 hj]
  go_wp2
  go_ret
  exact ⟨rfl, ((Below.refl _ _).alloc (Nat.le_refl _) _).alloc (by simp) _⟩

theorem own_door_met (os : Os) (args : Array Value) : laidMetH Ybad.prog Rows.lawS0220AOwnErrorRow.laid ((World.doorLaid Ybad.prog 66 os).forCall (fun _ _ => 0) ⟨#[], args, []⟩).memory :=
  laidMetH_of_parts3 (fuel := 8) (laidMet_of_run' 8 (by kernel_rfl) (by kernel_rfl)) (by kernel_rfl) (by kernel_rfl)

set_option maxRecDepth 100000 in
theorem own_lifted (os : Os) (started : os.Started) (H : Type) (enc : TypeId × Value → H) :
    ReturnsInHanded {} Ybad.checked os 4 .any (fun w args => (Rows.lawS0220AOwnErrorSpec.pre enc Ybad.prog Ybad.f4 [] false w args ∧ laidMetH Ybad.prog Rows.lawS0220AOwnErrorRow.laid w) ∧ sizedMet enc Ybad.prog Ybad.f4 (OpenSpec.ofChange Rows.lawS0220AOwnErrorSpec) false w args)
      (Rows.lawS0220AOwnErrorSpec.post enc Ybad.prog Ybad.f4 false true false false) := by
  refine returnsInHanded_of_change_and (C := Ybad.checked) (X := fun w _ => laidMetH Ybad.prog Rows.lawS0220AOwnErrorRow.laid w) (fun _ _ _ hh h => h.of_heap hh) own started (by kernel_rfl) Ybad.func4
    (ChangeSpec.witness_shaped (enc := enc) (C := Ybad.checked) (os := os) (X := fun w _ => laidMetH Ybad.prog Rows.lawS0220AOwnErrorRow.laid w) false (World.doorLaid Ybad.prog 66 os) #[.int .i64 0, .bool false] 8 rfl (World.shaped_of_RefB (by kernel_rfl) (by kernel_rfl)) (by kernel_rfl) (by kernel_rfl) (by kernel_rfl) (own_door_met os _)) ?_
  intro W base args ds gs before hval0 hW _ _ hL _
  have hval : ∀ (j : Nat) t v, Ybad.f4.params[j]? = some t → args[j]? = some v → Value.okWide Ybad.prog W .any base t v := hval0
  have hW' := hW
  obtain ⟨p, q, hA0, hV0, rfl, hfz, hnd⟩ := hW
  have hA : DataW.TrodAll enc Ybad.prog W 0 (fun _ => true) true Ybad.f4.params.toList args.toList ds p := hA0
  have hV : DataW.TrodVars enc Ybad.prog W (fun _ => true) [nEnded] gs q := hV0
  rw [Ybad.params4] at hA hval
  obtain ⟨v0, v1, d0, d1, p0, p1, rfl, rfl, rfl, h0, h1⟩ := trodAll_two hA
  obtain ⟨n, rfl, rfl, rfl, wn⟩ := open_int Ybad.underlying3 (hval 0 3 v0 rfl rfl) h0
  obtain ⟨u, rfl, rfl, rfl⟩ := open_bool Ybad.underlying4 (hval 1 4 v1 rfl rfl) h1
  rw [MakeChecks.laidMetH_plain _ _ _ (by kernel_rfl)] at hL
  obtain ⟨a0, s0, hv0, hc0, hs0, hz0⟩ := laid_sentinel hL gEnded tEnded Ybad.underlying23 row83 Ybad.underlying83 Ybad.underlying85 rfl rfl Ybad.underlying9 cells85 cells9
  obtain ⟨rfl, rfl⟩ := hV.unique (vars_read1 enc gEnded tEnded Ybad.underlying23 hv0 trivial _)
  clear hA0 hV0 hval0
  have hg0 : W.cell? ⟨2, 0, none⟩ = some (.iface 83 (.pointer (some a0))) := by simpa using World.var?_cell gEnded hv0 0
  have h2 : 2 < W.heap.size := by
    rcases Nat.lt_or_ge 2 W.heap.size with h | h
    · exact h
    · simp [World.cell?, Array.getElem?_eq_none h] at hg0
  have walk : Calls Ybad.prog 4 #[.int .i64 n, .bool u] W fun e w' => e = .returned (.bool true) ∧ Below W.heap.size W w' := by
    cases u
    · exact own_no n a0 W h2 hg0
    · exact own_yes n W
  refine walk.mono fun e W' ⟨he, bel⟩ => ?_
  subst he
  exact ⟨_, rfl, _, _, _, [], [], [.cell 2 0], hW', trodAll_mk1 (shut_bool Ybad.underlying4 _), trodAll_mk2 (shut_int Ybad.underlying3 wn) (shut_bool Ybad.underlying4 _), vars_read1 enc gEnded tEnded Ybad.underlying23 (var?_below bel gEnded h2 hv0) trivial _, bel.frame _, fun h => by cases h⟩

theorem own_holds : Rows.LawS0220AOwnErrorSaid :=
  OpenClaim.holds_of_wide 4 Ybad.f4 rfl rfl rfl rfl rfl rfl rfl ⟨rfl, rfl, rfl, rfl, rfl⟩ rfl rfl rfl rfl rfl (by kernel_rfl) Ybad.func4 (by kernel_rfl)
    (of_decide_eq_true (by kernel_rfl)) (by unfold Func.isWrapper; first | (rw [if_pos (by decide +kernel)]; kernel_rfl) | (rw [if_neg (by decide +kernel)]; exact ⟨rfl, rfl⟩))
    (fun os started H enc _ => own_lifted os started H enc)

theorem own_card : Rows.LawS0220AOwnErrorCardSaid :=
  Claim7.holds_tied_plain_at .later [] [.sentinel] true (true, "f0dbcd3506685afece5d75d5c6ade904743859e094dff2e56274cda643b9c4f6") true
    own_holds (fun _ h => by cases h) (by kernel_rfl) (fun _ h => by cases h) lawS0220AOwnError_row_tie rfl ⟨rfl, rfl⟩ (by kernel_rfl) rfl
    (fun f fn hf hfn => by
      obtain rfl : f = 4 := Option.some.inj ((show Ybad.prog.funcNamed Rows.lawS0220AOwnErrorRow.func = some 4 by kernel_rfl).symm.trans hf) |>.symm
      obtain rfl : fn = Ybad.f4 := (Option.some.inj (Ybad.func4.symm.trans hfn)).symm
      exact ⟨by kernel_rfl, fun j t ht => by
        rw [Ybad.params4] at ht
        have hm : t ∈ [3, 4] := by simpa using Array.mem_of_getElem? ht
        have hall : ([3, 4].all fun u => !Ybad.prog.wantsStandIn u) = true := by kernel_rfl
        exact (show Ybad.prog.wantsStandIn t = false by simpa using List.all_eq_true.1 hall t hm)⟩)
    (by kernel_rfl)

end Go.Proofs.YbulkdnmDoor
