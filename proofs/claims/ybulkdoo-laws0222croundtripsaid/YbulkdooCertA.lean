/- LawS0222CRoundTrip: leaf contracts, part A. -/
import Derived.Test.YbulkdooRows
import Derived.WalkKit
import Derived.WalkSmall
import Derived.BigQuiet
import Derived.Deep.QuietTactic
namespace Go.Proofs.Ybulkdoo.Cert
open Go.RowKit

theorem ret_int {k : IntKind} {a b : Int} (h : a = b) : Ending.returned (.int k a) = .returned (.int k b) := by rw [h]
theorem or8 (lo hi : Int) (h1 : 0 ≤ lo) (h2 : lo ≤ 255) (h3 : 0 ≤ hi) (h4 : hi ≤ 255) : bits .or .u16 lo (hi * 256) = hi * 256 + lo := by
  rw [u16_or _ _ h1 (by omega) (by omega) (by omega), Nat.or_comm]
  have e : (hi * 256).toNat = hi.toNat <<< 8 := by rw [Nat.shiftLeft_eq]; omega
  rw [e, ← Nat.shiftLeft_add_eq_or_of_lt (by omega), Nat.shiftLeft_eq]
  omega

set_option maxRecDepth 100000 in
theorem uint16 (g o n c : Nat) (hi lo : Int) (w : World) (hn : 2 ≤ n) (h0 : w.cell? ⟨g, o, none⟩ = some (.int .u8 hi)) (h1 : w.cell? ⟨g, o + 1, none⟩ = some (.int .u8 lo))
    (b0 : 0 ≤ hi) (b1 : hi ≤ 255) (b2 : 0 ≤ lo) (b3 : lo ≤ 255) (hg : g < w.heap.size) :
    Calls Yba.prog 26 #[.agg #[], .slice (some ⟨g, o, none⟩) n c] w fun e w' => e = .returned (.int .u16 (hi * 256 + lo)) ∧ Below w.heap.size w w' := by
  have hn1 : (1 : Int) < (n : Int) := by omega
  have hn0 : (0 : Int) < (n : Int) := by omega
  go_enter Yba.func26, Yba.ntmps26
  go_wp2_with fail
  go_quiet (fail)
  go_wp2
  go_ret
  exact ⟨ret_int (or8 lo hi b2 b3 b0 b1), below_drewN ((Below.refl _ _).alloc (Nat.le_refl _) _) _⟩

set_option maxRecDepth 100000 in
theorem sameb (g1 o1 c1 g2 o2 c2 : Nat) (zs : List Int) (w : World) (h1 : ∀ j, j < zs.length → w.cell? ⟨g1, o1 + j, none⟩ = some (.int .u8 (zs.getD j 0))) (h2 : ∀ j, j < zs.length → w.cell? ⟨g2, o2 + j, none⟩ = some (.int .u8 (zs.getD j 0))) (hl : zs.length ≤ 9223372036854775807) :
    Calls Yba.prog 13 #[.slice (some ⟨g1, o1, none⟩) zs.length c1, .slice (some ⟨g2, o2, none⟩) zs.length c2] w fun e w' => e = .returned (.bool true) ∧ ∃ q, w' = w.drewN q := by
  go_enter Yba.func13, Yba.ntmps13
  go_wp2_with fail
  go_loopw [5] (fun i w' => ∃ k q : Nat, k ≤ zs.length ∧ i = .int .i64 k ∧ w' = w.drewN q) (fun i _ => zs.length - (intOf i).toNat)
  case atStart => exact ⟨0, 0, Nat.zero_le _, rfl, rfl⟩
  case round =>
    obtain ⟨k, q, hk, rfl, rfl⟩ := hrel
    by_cases hlt : k < zs.length
    · have a1 := h1 k hlt
      have a2 := h2 k hlt
      have hlt' : (k : Int) < (zs.length : Int) := by omega
      go_wp2_with fail
      go_quiet (fail)
      go_wp2
      go_roundw
      case rel => exact ⟨k + 1, _, by omega, by go_num, rfl⟩
      case measure => simp [intOf]; omega
    · go_wp2_with fail
      go_ret
      exact ⟨rfl, _, rfl⟩
set_option maxRecDepth 100000 in
theorem sameu (g1 o1 c1 g2 o2 c2 : Nat) (zs : List Int) (w : World) (h1 : ∀ j, j < zs.length → w.cell? ⟨g1, o1 + j, none⟩ = some (.int .u16 (zs.getD j 0))) (h2 : ∀ j, j < zs.length → w.cell? ⟨g2, o2 + j, none⟩ = some (.int .u16 (zs.getD j 0))) (hl : zs.length ≤ 9223372036854775807) :
    Calls Yba.prog 14 #[.slice (some ⟨g1, o1, none⟩) zs.length c1, .slice (some ⟨g2, o2, none⟩) zs.length c2] w fun e w' => e = .returned (.bool true) ∧ ∃ q, w' = w.drewN q := by
  go_enter Yba.func14, Yba.ntmps14
  go_wp2_with fail
  go_loopw [5] (fun i w' => ∃ k q : Nat, k ≤ zs.length ∧ i = .int .i64 k ∧ w' = w.drewN q) (fun i _ => zs.length - (intOf i).toNat)
  case atStart => exact ⟨0, 0, Nat.zero_le _, rfl, rfl⟩
  case round =>
    obtain ⟨k, q, hk, rfl, rfl⟩ := hrel
    by_cases hlt : k < zs.length
    · have a1 := h1 k hlt
      have a2 := h2 k hlt
      have hlt' : (k : Int) < (zs.length : Int) := by omega
      go_wp2_with fail
      go_quiet (fail)
      go_wp2
      go_roundw
      case rel => exact ⟨k + 1, _, by omega, by go_num, rfl⟩
      case measure => simp [intOf]; omega
    · go_wp2_with fail
      go_ret
      exact ⟨rfl, _, rfl⟩

/-- Both slices empty, whatever their addresses. -/
theorem sameb_nil (a1 a2 : Option Addr) (c1 c2 : Nat) (w : World) :
    Calls Yba.prog 13 #[.slice a1 0 c1, .slice a2 0 c2] w fun e w' => e = .returned (.bool true) ∧ ∃ q, w' = w.drewN q := by
  go_enter Yba.func13, Yba.ntmps13
  go_wp2_with fail
  go_loop [5] (fun i => i = .int .i64 0) (fun _ => 0)
  case atStart => rfl
  case round =>
    subst hrel
    go_wp2_with fail
    go_ret
    exact ⟨rfl, 0, rfl⟩
theorem sameu_nil (a1 a2 : Option Addr) (c1 c2 : Nat) (w : World) :
    Calls Yba.prog 14 #[.slice a1 0 c1, .slice a2 0 c2] w fun e w' => e = .returned (.bool true) ∧ ∃ q, w' = w.drewN q := by
  go_enter Yba.func14, Yba.ntmps14
  go_wp2_with fail
  go_loop [5] (fun i => i = .int .i64 0) (fun _ => 0)
  case atStart => rfl
  case round =>
    subst hrel
    go_wp2_with fail
    go_ret
    exact ⟨rfl, 0, rfl⟩
end Go.Proofs.Ybulkdoo.Cert
