/- The law walked. -/
import Derived.Test.YbulkdnmPtsF
namespace Go.Proofs.Ybulkdnm.Pts
open Go.RowKit

/-- Where the loop stands after k timestamps. -/
def AtK (w : World) (mb : Nat) (I : List Int) (k : Nat) (wr : World) : Prop :=
  ∃ L g cap, MV wr w.heap.size mb L g cap ∧ Cnt L (I.take k) ∧ Below w.heap.size w wr

theorem law_long (a : Option Addr) (len c0 : Nat) (w : World) (h : 1024 < len) :
    Calls Yba.prog 3 #[.slice a len c0] w fun e w' => e = .returned (.bool true) ∧ Below w.heap.size w w' := by
  have h' : (1024 : Int) < (len : Int) := by omega
  go_enter Yba.func3, Yba.ntmps3
  go_wp2_with fail
  go_ret
  exact ⟨rfl, Below.refl _ _⟩

set_option maxRecDepth 100000 in
theorem law_short (a : Option Addr) (len c0 : Nat) (I : List Int) (w : World) (hI : SlAt w a len I) (h : len ≤ 1024) :
    Calls Yba.prog 3 #[.slice a len c0] w fun e w' => e = .returned (.bool true) ∧ Below w.heap.size w w' := by
  have h' : (len : Int) ≤ 1024 := by omega
  have HI : Hid _ := hI
  clear hI
  go_enter Yba.func3, Yba.ntmps3
  go_wp2_with fail
  refine (new_any w).mono ?_
  rintro e w1 ⟨mb, g, cap, rfl, H1⟩
  go_wp2_with fail
  go_loopw [12] (fun j wr => ∃ k : Nat, k ≤ len ∧ j = .int .i64 k ∧ AtK w mb I k wr) (fun j _ => len - (intOf j).toNat)
  case atStart => exact ⟨0, Nat.zero_le _, rfl, [], g, cap, H1.out.1, cnt_nil, H1.out.2⟩
  case round =>
    obtain ⟨k, hk, rfl, hA⟩ := hrel
    have HA : Hid _ := hA
    clear hA
    by_cases hlt : k < len
    · obtain ⟨L, g', cap', M, hC, hb⟩ := HA.out
      obtain ⟨x, rfl, hat⟩ := HI.out.at_ (by omega)
      have hj : k < I.length := by rw [HI.out.hl]; exact hlt
      have e1 := hat k hj
      have e1' := (hb.cell (World.block_lt_of_cell? _ _ e1)).trans e1
      have hlt' : (k : Int) < (len : Int) := by omega
      clear hat e1
      go_wp2_with fail
      refine (hold_any w.heap.size mb g' cap' L (I.take k) I[k] _ M hC (by rw [List.length_take]; omega)).mono ?_
      rintro e w2 ⟨rfl, H2⟩
      go_wp2_with fail
      refine ⟨⟨k + 1, by omega, by simp, ?_⟩, ?_⟩
      · obtain ⟨L2, g2, cap2, M2, C2, b2⟩ := H2.out
        refine ⟨L2, g2, cap2, M2, ?_, hb.trans b2⟩
        rw [List.take_succ_eq_append_getElem hj]
        exact C2
      · simp [intOf]; omega
    · obtain ⟨L, g', cap', M, hC, hb⟩ := HA.out
      have hke : k = I.length := by rw [HI.out.hl]; omega
      have hC' : Cnt L I := by rw [hke, List.take_length] at hC; exact hC
      clear hke hC
      go_wp2_with fail
      refine (check_any w.heap.size mb g' cap' len c0 a L I _ M hC' (HI.out.below hb) h).mono ?_
      rintro e w2 ⟨rfl, q, rfl⟩
      go_wp2_with fail
      go_ret
      exact ⟨rfl, below_drewN hb q⟩
end Go.Proofs.Ybulkdnm.Pts
