/- LawS0222ARoundTrip: the row told and tied: the card. No run of this law comes to fmt. -/
import Derived.Test.YbulkdooFmtWalks2
import Derived.Test.YbulkdooFmtTie
import Derived.Test.YbulkdooFmtCards
import Derived.OpenVars
import Derived.SevenTiedAt
namespace Go.Proofs.YbulkdooFmt
open Go.ChangeShapes Go.WideShapes Go.ChangeAt Go.RowKit

theorem own : ownKnob Ybaf.prog.godebug = none := by kernel_rfl
theorem laidOut : laidOutB Ybaf.prog = true := by kernel_rfl
theorem door_met (os : Os) (args : Array Value) : laidMetH Ybaf.prog Rows.lawS0222ARoundTripRow.laid ((World.doorLaid Ybaf.prog 20 os).forCall (fun _ _ => 0) ⟨#[], args, []⟩).memory :=
  laidMetH_of_parts3 (fuel := 8) (laidMet_of_run' 8 (by kernel_rfl) (by kernel_rfl)) (by kernel_rfl) (by kernel_rfl)

abbrev sp : OpenSpec := OpenSpec.ofChange Rows.lawS0222ARoundTripSpec

theorem witness {H : Type} (enc : TypeId × Value → H) (os : Os) (F : Stop.Interp) :
    ∃ (w : World) (tape : Tape) (i : Input), w.os = os ∧ (w.forCall tape i).Shaped Ybaf.checked.prog ∧ i.vars = [] ∧ Input.okWide Ybaf.checked.prog (w.forCall tape i) .any w.heap.size 4 i ∧
      sp.preRow enc Ybaf.checked.prog Ybaf.f4 [] false Rows.lawS0222ARoundTripRow.laid (w.forCall tape i).memory i.args ∧ ({} : Assume).holds Ybaf.checked.prog (lone (Frame.enter Ybaf.checked.prog 4 i.args .normal) [] (w.forCall tape i)) ∧ F.answers tape :=
  ⟨World.doorLaid Ybaf.prog 20 os, F.over fun _ _ => 0, ⟨#[], #[.int .u16 0], []⟩, rfl, World.shaped_of_RefB (by kernel_rfl) (by kernel_rfl), rfl,
    (Input.okWide_of_okWideB (by kernel_rfl)).2, OpenSpec.preRow_of_B (s := sp) rfl 8 (by kernel_rfl) (by kernel_rfl) (door_met os _), by
    simp only [Assume.holds]
    exact ⟨by simp, by simp, fun _ => F.over_modest Modest.zero, by simp, by simp⟩, F.over_answers _⟩

set_option maxRecDepth 100000 in
theorem lifted (os : Os) (started : os.Started) (H : Type) (enc : TypeId × Value → H) :
    ReturnsInTold none {} Ybaf.checked os 4 .any Input.okWide (sp.preRow enc Ybaf.prog Ybaf.f4 Rows.lawS0222ARoundTripRow.domain false Rows.lawS0222ARoundTripRow.laid) (fun F => (sp.at F).post enc Ybaf.prog Ybaf.f4 false true false false) (aloneAtReturn Ybaf.prog) nothingAlways := by
  refine returnsInTold_of_row (C := Ybaf.checked) (s := sp) (by kernel_rfl) own started (by kernel_rfl) Ybaf.func4 (witness enc os) ?_
  intro F W base args ds gs before _ hF hval0 hW _ _ _ hL _
  have hval : ∀ (j : Nat) t v, Ybaf.f4.params[j]? = some t → args[j]? = some v → Value.okWide Ybaf.prog W .any base t v := hval0
  have hW' := hW
  obtain ⟨p, q, hA0, hV0, rfl, _, _⟩ := hW
  have hA : DataW.TrodAll enc Ybaf.prog W 0 (fun _ => true) true Ybaf.f4.params.toList args.toList ds p := hA0
  have hV : DataW.TrodVars enc Ybaf.prog W (fun _ => true) Rows.lawS0222ARoundTripSpec.vars gs q := hV0
  rw [Ybaf.params4] at hA hval
  obtain ⟨v0, d0, rfl, rfl, h0⟩ := trodAll_one hA
  obtain ⟨n, rfl, rfl, rfl, wn⟩ := open_int Ybaf.underlying22 (hval 0 22 v0 rfl rfl) h0
  obtain ⟨b, off, cap, T⟩ := tab_of_laid hL
  obtain ⟨g, rfl⟩ : ∃ g, gs = [g] := by
    match gs, hV with
    | [], h => exact h.elim
    | [g], _ => exact ⟨g, rfl⟩
    | _ :: _ :: _, h => obtain ⟨_, _, _, _, _, _, _, _, _, _, h', _⟩ := h; exact h'.elim
  clear hA0 hV0 hval0
  refine (law_any n b off cap W T).mono fun e W' ⟨he, bel⟩ => ?_
  subst he
  exact ⟨_, rfl, _, _, _, [], [], q, hW', trodAll_mk1 (shut_bool Ybaf.underlying4 _), trodAll_mk1 (shut_int Ybaf.underlying22 wn), bel.trodVars laidOut (by kernel_rfl) hV, bel.frame _, fun h => by cases h⟩

theorem stopKnobs : Ybaf.pinned.checked.prog.stopKnobs = [] := by kernel_rfl
theorem quiet (os : Os) : Stop.quiet Ybaf.pinned.checked.prog os := by
  intro k hk
  rw [stopKnobs] at hk
  cases hk
theorem stops : Ybaf.pinned.checked.prog.stops = ["fmt.Sprintf", "fmt.errorf"] := by kernel_rfl

theorem round_card : Rows.LawS0222ARoundTripToldSaid :=
  Claim7.holds_of_told_tied_any_at .later (s := sp) (c := Rows.lawS0222ARoundTripRow) 4 Ybaf.f4 "fmt.Sprintf" ["fmt.errorf"] [] (true, "b6f574e370427426fb27280f0bf55e36c753c43e11e5d17d63ab7775c0005fd7") false false [.widerDeep] true
    (by kernel_rfl) rfl rfl rfl laidOut (by kernel_rfl) rfl ⟨rfl, rfl, rfl, rfl, rfl, rfl, rfl⟩ rfl rfl (by kernel_rfl) (by kernel_rfl) Ybaf.func4 (by kernel_rfl)
    (of_decide_eq_true (by kernel_rfl)) (by unfold Func.isWrapper; first | (rw [if_pos (by decide +kernel)]; kernel_rfl) | (rw [if_neg (by decide +kernel)]; exact ⟨rfl, rfl⟩)) stops.symm rfl stopKnobs.symm (by kernel_rfl)
    (by kernel_rfl) (by kernel_rfl) (by kernel_rfl) (by kernel_rfl) (by kernel_rfl) (by kernel_rfl) (by kernel_rfl) (by kernel_rfl) (by kernel_rfl) rfl (by kernel_rfl) rfl rfl
    rfl rfl
    rfl (by kernel_rfl) (by kernel_rfl) (by kernel_rfl) (by decide) (by kernel_rfl) lawS0222ARoundTrip_row_tie
    (OpenClaim.moreEntering_of (by kernel_rfl) (by kernel_rfl) (by kernel_rfl) (by kernel_rfl) (by kernel_rfl) (by kernel_rfl) (by kernel_rfl) (by kernel_rfl) (by kernel_rfl) (by kernel_rfl))
    ⟨_, WideRow.started_initial, quiet _⟩
    (fun os started _ H enc _ => lifted os started H enc)

end Go.Proofs.YbulkdooFmt
