/- parseCertificateRequest. -/
import Derived.Test.YbulkdooCertC
namespace Go.Proofs.Ybulkdoo.Cert
open Go.RowKit

/-- The body of a CertificateRequest. -/
def body (C S A t : List Int) : List Int :=
  (C.length : Int) :: (C ++ ((2 * S.length : Int) / 256 :: (2 * S.length : Int) % 256 :: (enc16 S ++ ((A.length : Int) / 256 :: (A.length : Int) % 256 :: (A ++ t)))))

set_option maxRecDepth 100000 in
theorem parse_any (g o cap : Nat) (C S A t : List Int) (hC : C.length ≤ 255) (hSl : S.length ≤ 4096) (hAl : A.length ≤ 4096) (hS : ∀ x ∈ S, 0 ≤ x ∧ x ≤ 65535)
    (w : World) (hcap : (body C S A t).length ≤ cap) (hcm : cap ≤ maxLen) (hg : g < w.heap.size) (hc : ∀ j, j < (body C S A t).length → w.cell? ⟨g, o + j, none⟩ = some (.int .u8 ((body C S A t).getD j 0))) :
    Calls Yba.prog 12 #[.slice (some ⟨g, o, none⟩) (body C S A t).length cap] w fun e w' => ∃ r oC V, e = .returned (.tuple #[.pointer (some ⟨r, 0, none⟩), .bool ((t.length : Int) == 0)]) ∧
      w'.cell? ⟨r, 0, none⟩ = some (.slice (some ⟨g, oC, none⟩) C.length C.length) ∧ w'.cell? ⟨r, 1, none⟩ = some (.slice (some ⟨V, 0, none⟩) S.length S.length) ∧
      (∀ j, j < C.length → w'.cell? ⟨g, oC + j, none⟩ = some (.int .u8 (C.getD j 0))) ∧ (∀ j, j < S.length → w'.cell? ⟨V, j, none⟩ = some (.int .u16 (S.getD j 0))) ∧ Below w.heap.size w w' := by
  have hpb : PB (w.alloc (.cells #[.slice (some ⟨g, o, none⟩) (body C S A t).length cap, .bool false] 53)) w.heap.size g o cap (body C S A t) := by
    refine ⟨by go_simp, by go_simp, by go_simp, by go_simp, hcap, hcm, fun j hj => ?_, by omega, by simp; omega⟩
    rw [← hc j hj]
    go_simp
  have HPB : Hid _ := hpb
  clear hpb hc
  obtain ⟨n, hn⟩ : ∃ n, n = (body C S A t).length := ⟨_, rfl⟩
  rw [← hn] at HPB hcap ⊢
  have HN : Hid _ := hn
  clear hn
  go_enter Yba.func12, Yba.ntmps12
  go_wp2_with fail
  refine (vec8_pb w.heap.size g o cap _ C _ rfl (by omega) _ HPB.out).mono ?_
  rintro e w1 ⟨oC, rfl, ⟨o1, cap1, hp1⟩, hg1, hC1⟩
  have R1 : Hid _ := And.intro hp1 (And.intro hg1 hC1)
  clear hp1 hg1 hC1
  go_wp2_with fail
  refine (u16s_pb w.heap.size g o1 cap1 _ _ S _ (by omega) (by omega) (by omega) (by omega) (by omega) hS _ R1.out.1).mono ?_
  rintro e w2 ⟨V, rfl, hV, ⟨o2, cap2, hp2⟩, hg2, hS2⟩
  have R2 : Hid _ := And.intro hV (And.intro hp2 (And.intro hg2 hS2))
  clear hV hp2 hg2 hS2
  go_wp2_with fail
  have hp3 := (R2.out.2.1).below ((Below.refl w2.heap.size w2).alloc (Nat.le_refl _) (.cells #[.slice (some ⟨g, oC, none⟩) C.length C.length, .slice (some ⟨V, 0, none⟩) S.length S.length] 44))
  have HP3 : Hid _ := hp3
  clear hp3
  refine (vec16_pb w.heap.size g o2 cap2 _ _ A t (by omega) (by omega) (by omega) (by omega) (by omega) _ HP3.out).mono ?_
  rintro e w4 ⟨o4, rfl, ⟨o5, cap5, hp4⟩, hg4, _⟩
  have R4 : Hid _ := And.intro hp4 hg4
  clear hp4 hg4
  go_wp2_with fail
  refine (done_pb w.heap.size g o5 cap5 t _ R4.out.1).mono ?_
  rintro e w5 ⟨rfl, rfl⟩
  go_wp2_with fail
  go_ret2
  obtain ⟨hp1, hg1, hC1⟩ := R1.out
  obtain ⟨hV, hp2, hg2, hS2⟩ := R2.out
  obtain ⟨hp4, hg4⟩ := R4.out
  have z1 := hg1.size
  have z2 := hg2.size
  have z4 := hg4.size
  simp at z1 z4
  refine ⟨w2.heap.size, oC, V, rfl, ?_, ?_, fun j hj => ?_, fun j hj => ?_, ?_⟩
  · rw [grown_cell hg4 (by simp) (by omega)]; go_simp
  · rw [grown_cell hg4 (by simp) (by omega)]; go_simp
  · rw [grown_cell hg4 (by simp; omega) (by omega), ← hC1 j hj, ← grown_cell hg2 hp1.gl (by omega)]
    exact World.cell?_alloc_past _ _ _ (by omega)
  · have hc := hS2 j hj
    have hVl : V < w2.heap.size := by
      rcases Nat.lt_or_ge V w2.heap.size with h' | h'
      · exact h'
      · simp [World.cell?, Array.getElem?_eq_none h'] at hc
    rw [grown_cell hg4 (by simp; omega) (by omega), ← hc]
    exact World.cell?_alloc_past _ _ _ hVl
  · have b1 : Below w.heap.size w w1 := ((Below.refl _ _).alloc (Nat.le_refl _) _).trans (below_grown hg1 (Nat.le_refl _) (by simp))
    have b2 : Below w.heap.size w w2 := b1.trans (below_grown hg2 (Nat.le_refl _) (by omega))
    exact (b2.alloc (by omega) _).trans (below_grown hg4 (Nat.le_refl _) (by simp; omega))
end Go.Proofs.Ybulkdoo.Cert
