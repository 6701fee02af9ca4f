/- The plain values, case by case. -/
import Derived.Test.YbulkdlwClaimJ
namespace Go.Proofs.Ybulkdlw.Claim
open Go.RowKit

theorem vals_ns {sel word T : Int} {I : List Int} (h2 : sel = 2) (hsh : shB word = false) :
    shdB false sel word T I = true ∧ tkB false sel word T I = true ∧ outW false sel word T I = 2305843009213693952 ∧ outP false sel word T I = true ∧ outE false sel word T I = [T] ∧ outO false sel T I = [] := by
  subst h2
  have a1 : shdB false 2 word T I = true := by simp [shdB, held, hsh]
  exact ⟨a1, by simp [tkB, a1], by simp [outW, hsh], by simp [outP, a1], by simp [outE, a1, hsh], by simp [outO]⟩
theorem vals_in {sel word T : Int} {I : List Int} (h2 : sel = 2) (hsh : shB word = true) (hin : T ∈ I) :
    shdB false sel word T I = false ∧ tkB false sel word T I = false ∧ outW false sel word T I = word ∧ outP false sel word T I = decide (0 < I.length) ∧ outE false sel word T I = I ∧ outO false sel T I = [] := by
  subst h2
  have a1 : shdB false 2 word T I = false := by simp [shdB, held, hsh, hin]
  exact ⟨a1, by simp [tkB, a1], by simp [outW, hsh], by simp [outP, a1], by simp [outE, a1], by simp [outO]⟩
theorem vals_join {sel word T : Int} {I : List Int} (h2 : sel = 2) (hsh : shB word = true) (hin : ¬ T ∈ I) :
    shdB false sel word T I = true ∧ tkB false sel word T I = true ∧ outW false sel word T I = word ∧ outP false sel word T I = true ∧ outE false sel word T I = I ++ [T] ∧ outO false sel T I = [] := by
  subst h2
  have a1 : shdB false 2 word T I = true := by simp [shdB, held, hsh, hin]
  exact ⟨a1, by simp [tkB, a1], by simp [outW, hsh], by simp [outP, a1], by simp [outE, a1, hsh], by simp [outO]⟩
theorem vals_e {sel word T : Int} {I : List Int} (h2 : (sel == 2) = false) (hF : oth I T I.length = []) :
    shdB false sel word T I = false ∧ tkB false sel word T I = true ∧ outW false sel word T I = tk sel word T ∧ outP false sel word T I = decide (0 < I.length) ∧ outE false sel word T I = I ∧ outO false sel T I = [] := by
  have a1 : shdB false sel word T I = false := by simp [shdB, h2]
  exact ⟨a1, by simp only [tkB, a1, h2, hF]; rfl, by simp only [outW, h2, hF]; rfl, by simp [outP, a1], by simp [outE, a1], by simp only [outO, h2, hF]; rfl⟩
theorem vals_o {sel word T : Int} {I : List Int} (h2 : (sel == 2) = false) (hF : ¬ oth I T I.length = []) :
    shdB false sel word T I = false ∧ tkB false sel word T I = false ∧ outW false sel word T I = word ∧ outP false sel word T I = decide (0 < I.length) ∧ outE false sel word T I = I ∧ outO false sel T I = oth I T I.length := by
  have a1 : shdB false sel word T I = false := by simp [shdB, h2]
  have a2 : (oth I T I.length).isEmpty = false := by
    cases h : oth I T I.length with
    | nil => exact (hF h).elim
    | cons a l => rfl
  exact ⟨a1, by simp only [tkB, a1, h2, a2]; rfl, by simp only [outW, h2, a2]; rfl, by simp [outP, a1], by simp [outE, a1], by simp only [outO, h2]; rfl⟩
theorem sl_eq23 (a : Option Addr) (l c : Nat) (w : World) : (binOp .eql 23 (.slice a l c) (.slice none 0 0)).run Yba.prog w = .ok (.bool a.isNone) w := by
  simp only [binOp]
  simp [run_equal_slice_nil w 23 22 a l c Yba.underlying23]
theorem sl_eq90 (a : Option Addr) (l c : Nat) (w : World) : (binOp .eql 90 (.slice a l c) (.slice none 0 0)).run Yba.prog w = .ok (.bool a.isNone) w := by
  simp only [binOp]
  simp [run_equal_slice_nil w 90 29 a l c Yba.underlying90]
theorem sl_eq23_nil (w : World) : (binOp .eql 23 (.slice none 0 0) (.slice none 0 0)).run Yba.prog w = .ok (.bool true) w := sl_eq23 none 0 0 w
theorem sl_eq23_some (x : Addr) (l c : Nat) (w : World) : (binOp .eql 23 (.slice (some x) l c) (.slice none 0 0)).run Yba.prog w = .ok (.bool false) w := sl_eq23 (some x) l c w
theorem slAt_cells {w : World} {pa : Option Addr} {len : Nat} {I : List Int} (h : SlAt w pa len I) : ∀ ad, pa = some ad → ∀ j u, (us I)[j]? = some u → w.cell? (ad.add j) = some u := by
  intro ad hb j u hu
  have hj : j < I.length := by have := (List.getElem?_eq_some_iff.1 hu).1; simpa using this
  have hu' : u = .int .u64 I[j] := by simp [hj] at hu; exact hu.symm
  obtain ⟨x, hx, hc⟩ := h.at_ (by rw [← h.hl]; omega)
  rw [hb] at hx
  cases hx
  rw [hu']
  exact hc j hj
theorem own_z {w : World} {base len c : Nat} {a : Option Addr} {I : List Int} (h : w.ownsRow base 22 1 (.slice a (0 + len) c) (0 + len) ([] ++ us I)) : w.ownsRow base 22 1 (.slice a len c) len (us I) := by
  rw [Nat.zero_add, List.nil_append] at h
  exact h
/-- make, append the prior ones, append tid. -/
theorem pack3 {w w4 w5 w6 : World} {len : Nat} {I : List Int} {T : Int} {v' : Value} {ob : Obj} (g4 : w.grownBy w4 none) (g5 : w4.grownBy w5 (some w.heap.size)) (g6 : (w5.alloc ob).grownBy w6 (Value.ownBlock (.slice (some ⟨w.heap.size, 0, none⟩) len (len + 1))))
    (ho : w6.ownsRow w.heap.size 22 1 v' (len + 1) (us I ++ [.int .u64 T])) :
    ∃ g c, v' = .slice (some ⟨g, 0, none⟩) (len + 1) c ∧ Hid (Below w.heap.size w w6 ∧ SlAt w6 (some ⟨g, 0, none⟩) (len + 1) (I ++ [T])) := by
  obtain ⟨g, c, rfl⟩ := Go.Joins.ownsRow_form ho (by omega)
  have b4 := below_none g4
  have b5 := b4.grown g5 b4.size (fun k hk => by cases hk; exact Nat.le_refl _)
  have b6 := (b5.alloc b5.size ob).grown g6 (Nat.le_trans b5.size (by simp)) (fun k hk => by cases hk; exact Nat.le_refl _)
  exact ⟨g, c, rfl, b6, own_slAt22 (base := w.heap.size) (sc := c) (by simpa using ho)⟩
theorem tk_fu {sel word T : Int} (h1 : (bits .and .u64 word 9223372036854775808 != 0) = true) (h2 : (bits .and .u64 word 1152921504606846975 == T) = true) : tk sel word T = bits .or .u64 (base sel T) 4611686018427387904 := by
  unfold tk fuB idOf
  rw [h1, h2]
  rfl
theorem tk_sh {sel word T : Int} (h : fuB word T = false) (h2 : shB word = true) : tk sel word T = bits .or .u64 (base sel T) 1152921504606846976 := by
  unfold tk
  rw [h, h2]
  rfl
theorem tk_no {sel word T : Int} (h : fuB word T = false) (h2 : shB word = false) : tk sel word T = base sel T := by
  unfold tk
  rw [h, h2]
  rfl
theorem fu_no1 {word T : Int} (h1 : (bits .and .u64 word 9223372036854775808 != 0) = false) : fuB word T = false := by
  unfold fuB
  rw [h1]
  rfl
theorem fu_no2 {word T : Int} (h1 : (bits .and .u64 word 1152921504606846975 == T) = false) : fuB word T = false := by
  unfold fuB idOf
  rw [h1]
  simp
end Go.Proofs.Ybulkdlw.Claim
