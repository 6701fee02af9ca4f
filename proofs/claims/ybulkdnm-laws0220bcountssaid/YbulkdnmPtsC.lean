/- sort.Search over the points, and its closure. -/
import Derived.Test.YbulkdnmPtsB
namespace Go.Proofs.Ybulkdnm.Pts
open Go.RowKit

theorem mf (fn : Fn) (first cap : Array Value) (w : World) : (Instr.makeFunc fn first cap).run Yba.prog w = .ok (.func fn first cap) w := rfl

set_option maxRecDepth 100000 in
theorem clos10 (pm pt mb g n cap i : Nat) (ts t : Int) (w : World) (h1 : w.cell? ⟨pm, 0, none⟩ = some (.pointer (some ⟨mb, 0, none⟩))) (h2 : w.cell? ⟨pt, 0, none⟩ = some (.int .i64 ts)) (h3 : w.cell? ⟨mb, 11, none⟩ = some (.slice (some ⟨g, 0, none⟩) n cap))
    (h4 : w.cell? ⟨g, i * 3, none⟩ = some (.int .i64 t)) (hi : i < n) :
    Calls Yba.prog 10 #[.int .i64 i, .pointer (some ⟨pm, 0, none⟩), .pointer (some ⟨pt, 0, none⟩)] w fun e w' => e = .returned (.bool (decide (ts ≤ t))) ∧ ∃ q, w' = w.drewN q := by
  have hi' : (i : Int) < (n : Int) := by omega
  go_enter Yba.func10, Yba.ntmps10
  go_wp2_with fail
  go_quiet (fail)
  go_wp2
  go_ret
  exact ⟨rfl, _, rfl⟩

set_option maxRecDepth 100000 in
theorem search_any (pm pt mb g n cap : Nat) (ts : Int) (T : Nat → Int) (w : World) (h1 : w.cell? ⟨pm, 0, none⟩ = some (.pointer (some ⟨mb, 0, none⟩))) (h2 : w.cell? ⟨pt, 0, none⟩ = some (.int .i64 ts)) (h3 : w.cell? ⟨mb, 11, none⟩ = some (.slice (some ⟨g, 0, none⟩) n cap))
    (h4 : ∀ i, i < n → w.cell? ⟨g, i * 3, none⟩ = some (.int .i64 (T i))) (hmono : ∀ i j, i < j → j < n → T i < T j) (hn : n ≤ 5000) :
    Calls Yba.prog 9 #[.int .i64 n, .func (.func 10) #[] #[.pointer (some ⟨pm, 0, none⟩), .pointer (some ⟨pt, 0, none⟩)]] w fun e w' => ∃ r q : Nat, e = .returned (.int .i64 r) ∧ w' = w.drewN q ∧ Hid (r ≤ n ∧ (∀ i, i < r → T i < ts) ∧ ∀ i, r ≤ i → i < n → ts ≤ T i) := by
  have HM : Hid _ := hmono
  have H4 : Hid _ := h4
  clear hmono h4
  go_enter Yba.func9, Yba.ntmps9
  go_wp2_with fail
  go_loopw [5, 6] (fun a b wr => ∃ i j q : Nat, a = .int .i64 i ∧ b = .int .i64 j ∧ wr = w.drewN q ∧ i ≤ j ∧ j ≤ n ∧ Hid ((∀ k, k < i → T k < ts) ∧ ∀ k, j ≤ k → k < n → ts ≤ T k)) (fun a b _ => (intOf b).toNat - (intOf a).toNat)
  case atStart => exact ⟨0, n, 0, rfl, rfl, rfl, by omega, by omega, fun k hk => absurd hk (Nat.not_lt_zero _), fun k h1 h2 => by omega⟩
  case round =>
    obtain ⟨i, j, q, rfl, rfl, rfl, hij, hjn, HR⟩ := hrel
    by_cases hlt : i < j
    · have hlt' : (i : Int) < (j : Int) := by omega
      go_wp2_with fail
      obtain ⟨h, hh⟩ : ∃ h : Nat, h = (i + j) / 2 := ⟨_, rfl⟩
      have eh : ((i : Int) + (j : Int)) / 2 = (h : Int) := by omega
      have hh1 : i ≤ h := by omega
      have hh2 : h < j := by omega
      rw [eh]
      clear eh hh
      refine (clos10 pm pt mb g n cap h ts (T h) (w.drewN q) h1 h2 h3 (H4.out h (by omega)) (by omega)).mono ?_
      rintro e w' ⟨rfl, q2, rfl⟩
      by_cases hp : ts ≤ T h
      · have hp' : decide (ts ≤ T h) = true := by simpa using hp
        rw [hp']
        clear hp'
        have HP : Hid _ := hp
        clear hp
        go_wp2_with fail
        go_roundw
        case rel => exact ⟨i, h, _, rfl, rfl, rfl, hh1, by omega, HR.out.1, fun k hk1 hk2 => by
          by_cases e : k = h
          · rw [e]; exact HP.out
          · exact Int.le_of_lt (Int.lt_of_le_of_lt HP.out (HM.out h k (by omega) hk2))⟩
        case measure => simp [intOf]; omega
      · have hp' : decide (ts ≤ T h) = false := by simpa using hp
        rw [hp']
        clear hp'
        have HP : Hid (T h < ts) := (by omega : T h < ts)
        clear hp
        go_wp2_with fail
        go_roundw
        case rel => exact ⟨h + 1, j, _, by go_num, rfl, rfl, by omega, hjn, fun k hk => by
          by_cases e : k = h
          · rw [e]; exact HP.out
          · exact Int.lt_trans (HM.out k h (by omega) (by omega)) HP.out, HR.out.2⟩
        case measure => simp [intOf]; omega
    · have hij' : i = j := by omega
      have HI : Hid _ := hij'
      clear hij'
      go_wp2_with fail
      go_ret
      exact ⟨i, q, rfl, rfl, by omega, HR.out.1, fun k hk1 hk2 => HR.out.2 k (by have := HI.out; omega) hk2⟩
end Go.Proofs.Ybulkdnm.Pts
