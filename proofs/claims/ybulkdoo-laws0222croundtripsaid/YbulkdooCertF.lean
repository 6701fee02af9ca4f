/- LawS0222CRoundTrip: the walks of the law. -/
import Derived.Test.YbulkdooCertE
namespace Go.Proofs.Ybulkdoo.Cert
open Go.RowKit

theorem encode_cells (ac ax aa : Option Addr) (lc cc ls cs la ca : Nat) (t : Bool) (C S A : List Int) (w : World) (hC : SlAt .u8 w ac lc cc C) (hS : SlAt .u16 w ax ls cs S) (hA : SlAt .u8 w aa la ca A)
    (lC : lc ≤ 255) (lS : ls ≤ 4096) (lA : la ≤ 4096) (bS : ∀ x ∈ S, 0 ≤ x ∧ x ≤ 65535) :
    Calls Yba.prog 11 #[.slice ac lc cc, .slice ax ls cs, .slice aa la ca, .bool t] w fun e w' => ∃ g cap, e = .returned (.slice (some ⟨g, 0, none⟩) (body C S A (if t then [0] else [])).length cap) ∧
      (body C S A (if t then [0] else [])).length ≤ cap ∧ cap ≤ maxLen ∧ g < w'.heap.size ∧ (∀ j, j < (body C S A (if t then [0] else [])).length → w'.cell? ⟨g, 0 + j, none⟩ = some (.int .u8 ((body C S A (if t then [0] else [])).getD j 0))) ∧ Below w.heap.size w w' := by
  refine (encode_any ac ax aa lc cc ls cs la ca t C S A w hC hS hA lC lS lA bS).mono ?_
  rintro e w' ⟨g, n, cap, rfl, hown, hb⟩
  generalize body C S A (if t then [0] else []) = z at hown ⊢
  have hc := hown.cells (g := g) rfl
  obtain ⟨hl, h | ⟨g', cap', cur, he, hg, hcur, h1, h2, hsz, htk⟩⟩ := hown
  · simp at h
  simp only [Value.slice.injEq, Option.some.injEq, Addr.mk.injEq] at he
  obtain ⟨⟨rfl, _⟩, _, rfl⟩ := he
  simp only [List.length_map, Nat.mul_one] at hl
  subst hl
  refine ⟨g, cap, rfl, h1, h2, (Array.getElem?_eq_some_iff.1 hcur).1, fun j hj => ?_, hb⟩
  have := hc j (.int .u8 (z.getD j 0)) (by simp [List.getD, hj])
  rwa [Go.WideShapes.add_plain] at this

theorem sameb_any (g1 o1 c1 len c2 : Nat) (a2 : Option Addr) (zs : List Int) (w : World) (h1 : ∀ j, j < zs.length → w.cell? ⟨g1, o1 + j, none⟩ = some (.int .u8 (zs.getD j 0))) (h2 : SlAt .u8 w a2 len c2 zs) (hl : len ≤ 255) :
    Calls Yba.prog 13 #[.slice (some ⟨g1, o1, none⟩) zs.length c1, .slice a2 len c2] w fun e w' => e = .returned (.bool true) ∧ ∃ q, w' = w.drewN q := by
  have e := h2.hl
  subst e
  by_cases hz : zs.length = 0
  · rw [hz]
    exact sameb_nil _ _ _ _ w
  · obtain ⟨b, off, rfl, hc⟩ := h2.at_ (by omega)
    refine sameb g1 o1 c1 b off c2 zs w h1 (fun j hj => ?_) (by omega)
    obtain ⟨x, hx, hcell, _⟩ := hc w (Below.refl _ _) j hj
    rw [hcell, hx]
    simp [List.getD, hj]
theorem sameu_any (g1 o1 c1 len c2 : Nat) (a2 : Option Addr) (zs : List Int) (w : World) (h1 : ∀ j, j < zs.length → w.cell? ⟨g1, o1 + j, none⟩ = some (.int .u16 (zs.getD j 0))) (h2 : SlAt .u16 w a2 len c2 zs) (hl : len ≤ 4096) :
    Calls Yba.prog 14 #[.slice (some ⟨g1, o1, none⟩) zs.length c1, .slice a2 len c2] w fun e w' => e = .returned (.bool true) ∧ ∃ q, w' = w.drewN q := by
  have e := h2.hl
  subst e
  by_cases hz : zs.length = 0
  · rw [hz]
    exact sameu_nil _ _ _ _ w
  · obtain ⟨b, off, rfl, hc⟩ := h2.at_ (by omega)
    refine sameu g1 o1 c1 b off c2 zs w h1 (fun j hj => ?_) (by omega)
    obtain ⟨x, hx, hcell, _⟩ := hc w (Below.refl _ _) j hj
    rw [hcell, hx]
    simp [List.getD, hj]

theorem encode_n (ac ax aa : Option Addr) (lc cc ls cs la ca : Nat) (t : Bool) (C S A tl : List Int) (n : Nat) (htl : Hid (tl = if t then [0] else [])) (hn : Hid (n = (body C S A tl).length)) (w : World) (hC : SlAt .u8 w ac lc cc C) (hS : SlAt .u16 w ax ls cs S) (hA : SlAt .u8 w aa la ca A)
    (lC : lc ≤ 255) (lS : ls ≤ 4096) (lA : la ≤ 4096) (bS : ∀ x ∈ S, 0 ≤ x ∧ x ≤ 65535) :
    Calls Yba.prog 11 #[.slice ac lc cc, .slice ax ls cs, .slice aa la ca, .bool t] w fun e w' => ∃ g cap, e = .returned (.slice (some ⟨g, 0, none⟩) n cap) ∧ Hid ((body C S A tl).length ≤ cap ∧ cap ≤ maxLen ∧ g < w'.heap.size ∧ (∀ j, j < (body C S A tl).length → w'.cell? ⟨g, 0 + j, none⟩ = some (.int .u8 ((body C S A tl).getD j 0))) ∧ Below w.heap.size w w') := by
  obtain rfl := htl.out
  obtain rfl := hn.out
  refine (encode_cells ac ax aa lc cc ls cs la ca t C S A w hC hS hA lC lS lA bS).mono ?_
  rintro e w' ⟨g, cap, h1, h2, h3, h4, h5, h6⟩
  exact ⟨g, cap, h1, h2, h3, h4, h5, h6⟩

theorem parse_n (g cap n : Nat) (C S A tl : List Int) (hn : Hid (n = (body C S A tl).length)) (b : Bool) (hb : Hid (b = ((tl.length : Int) == 0))) (hC : C.length ≤ 255) (hSl : S.length ≤ 4096) (hAl : A.length ≤ 4096) (hS : ∀ x ∈ S, 0 ≤ x ∧ x ≤ 65535)
    (w0 w : World) (H : Hid ((body C S A tl).length ≤ cap ∧ cap ≤ maxLen ∧ g < w.heap.size ∧ (∀ j, j < (body C S A tl).length → w.cell? ⟨g, 0 + j, none⟩ = some (.int .u8 ((body C S A tl).getD j 0))) ∧ Below w0.heap.size w0 w)) :
    Calls Yba.prog 12 #[.slice (some ⟨g, 0, none⟩) n cap] w fun e w' => ∃ r oC V, e = .returned (.tuple #[.pointer (some ⟨r, 0, none⟩), .bool b]) ∧
      w'.cell? ⟨r, 0, none⟩ = some (.slice (some ⟨g, oC, none⟩) C.length C.length) ∧ w'.cell? ⟨r, 1, none⟩ = some (.slice (some ⟨V, 0, none⟩) S.length S.length) ∧
      Hid ((∀ j, j < C.length → w'.cell? ⟨g, oC + j, none⟩ = some (.int .u8 (C.getD j 0))) ∧ (∀ j, j < S.length → w'.cell? ⟨V, j, none⟩ = some (.int .u16 (S.getD j 0))) ∧ Below w0.heap.size w0 w') := by
  obtain rfl := hn.out
  obtain rfl := hb.out
  obtain ⟨h1, h2, h3, h4, h5⟩ := H.out
  refine (parse_any g 0 cap C S A tl hC hSl hAl hS w h1 h2 h3 h4).mono ?_
  rintro e w' ⟨r, oC, V, k0, k1, k2, k3, k4, k5⟩
  exact ⟨r, oC, V, k0, k1, k2, k3, k4, h5.trans (k5.mono h5.size)⟩

set_option maxRecDepth 100000 in
theorem law_small (ac ax aa : Option Addr) (lc cc ls cs la ca : Nat) (t : Bool) (C S A : List Int) (w : World) (hC : SlAt .u8 w ac lc cc C) (hS : SlAt .u16 w ax ls cs S) (hA : SlAt .u8 w aa la ca A)
    (lC : lc ≤ 255) (lS : ls ≤ 4096) (lA : la ≤ 4096) (bS : ∀ x ∈ S, 0 ≤ x ∧ x ≤ 65535) :
    Calls Yba.prog 5 #[.slice ac lc cc, .slice ax ls cs, .slice aa la ca, .bool t] w fun e w' => e = .returned (.bool true) ∧ Below w.heap.size w w' := by
  have HC : Hid _ := hC
  have HS : Hid _ := hS
  have HA : Hid _ := hA
  have BS : Hid _ := bS
  obtain ⟨tl, htl⟩ : ∃ tl : List Int, tl = if t then [0] else [] := ⟨_, rfl⟩
  have HTL : Hid _ := htl
  obtain ⟨n, hn⟩ : ∃ n, n = (body C S A tl).length := ⟨_, rfl⟩
  have HNN : Hid _ := hn
  obtain ⟨b, hb⟩ : ∃ b, b = ((tl.length : Int) == 0) := ⟨_, rfl⟩
  have HB : Hid _ := hb
  have hbt : b = !t := by rw [hb, htl]; cases t <;> rfl
  have HBT : Hid _ := hbt
  clear hC hS hA htl hn hb hbt bS
  have g1 : ¬ (255 : Int) < (lc : Int) := by omega
  have g2 : ¬ (4096 : Int) < (ls : Int) := by omega
  have g3 : ¬ (4096 : Int) < (la : Int) := by omega
  go_enter Yba.func5, Yba.ntmps5
  go_wp2_with fail
  refine (encode_n ac ax aa lc cc ls cs la ca t C S A tl n HTL HNN w HC.out HS.out HA.out lC lS lA BS.out).mono ?_
  rintro e w1 ⟨g, cap, rfl, H1⟩
  go_wp2_with fail
  refine (parse_n g cap n C S A tl HNN b HB (by rw [HC.out.hl]; exact lC) (by rw [HS.out.hl]; exact lS) (by rw [HA.out.hl]; exact lA) BS.out w w1 H1).mono ?_
  rintro e w2 ⟨r, oC, V, rfl, k1, k2, H2⟩
  cases t
  · obtain rfl : b = true := HBT.out
    go_wp2_with fail
    refine (sameb_any g oC C.length lc cc ac C w2 H2.out.1 (HC.out.below H2.out.2.2) lC).mono ?_
    rintro e w3 ⟨rfl, q3, rfl⟩
    go_wp2_with fail
    refine (sameu_any V 0 S.length ls cs ax S _ (fun j hj => by rw [Nat.zero_add]; exact H2.out.2.1 j hj) ((HS.out.below H2.out.2.2).below (below_drewN (Below.refl _ _) q3)) lS).mono ?_
    rintro e w4 ⟨rfl, q4, rfl⟩
    go_wp2_with fail
    go_ret
    exact ⟨rfl, below_drewN H2.out.2.2 _⟩
  · obtain rfl : b = false := HBT.out
    go_wp2_with fail
    go_ret
    exact ⟨rfl, H2.out.2.2⟩
set_option maxRecDepth 100000 in
theorem law_big (ac ax aa : Option Addr) (lc0 cc ls cs la ca : Nat) (t : Bool) (C S A : List Int) (w : World) (hC : SlAt .u8 w ac 255 cc C) (hS : SlAt .u16 w ax ls cs S) (hA : SlAt .u8 w aa la ca A)
    (lC0 : 255 < lc0) (lCc : lc0 ≤ cc) (lS : ls ≤ 4096) (lA : la ≤ 4096) (bS : ∀ x ∈ S, 0 ≤ x ∧ x ≤ 65535) :
    Calls Yba.prog 5 #[.slice ac lc0 cc, .slice ax ls cs, .slice aa la ca, .bool t] w fun e w' => e = .returned (.bool true) ∧ Below w.heap.size w w' := by
  have HC : Hid _ := hC
  have HS : Hid _ := hS
  have HA : Hid _ := hA
  have BS : Hid _ := bS
  obtain ⟨tl, htl⟩ : ∃ tl : List Int, tl = if t then [0] else [] := ⟨_, rfl⟩
  have HTL : Hid _ := htl
  obtain ⟨n, hn⟩ : ∃ n, n = (body C S A tl).length := ⟨_, rfl⟩
  have HNN : Hid _ := hn
  obtain ⟨b, hb⟩ : ∃ b, b = ((tl.length : Int) == 0) := ⟨_, rfl⟩
  have HB : Hid _ := hb
  have hbt : b = !t := by rw [hb, htl]; cases t <;> rfl
  have HBT : Hid _ := hbt
  clear hC hS hA htl hn hb hbt bS
  have g1 : (255 : Int) < (lc0 : Int) := by omega
  have g0 : (255 : Int) ≤ (cc : Int) := by omega
  have gc : ¬ cc = 0 := by omega
  have g2 : ¬ (4096 : Int) < (ls : Int) := by omega
  have g3 : ¬ (4096 : Int) < (la : Int) := by omega
  go_enter Yba.func5, Yba.ntmps5
  go_wp2_with fail
  refine (encode_n ac ax aa 255 cc ls cs la ca t C S A tl n HTL HNN w HC.out HS.out HA.out (by omega) lS lA BS.out).mono ?_
  rintro e w1 ⟨g, cap, rfl, H1⟩
  go_wp2_with fail
  refine (parse_n g cap n C S A tl HNN b HB (by rw [HC.out.hl]; omega) (by rw [HS.out.hl]; exact lS) (by rw [HA.out.hl]; exact lA) BS.out w w1 H1).mono ?_
  rintro e w2 ⟨r, oC, V, rfl, k1, k2, H2⟩
  cases t
  · obtain rfl : b = true := HBT.out
    go_wp2_with fail
    refine (sameb_any g oC C.length 255 cc ac C w2 H2.out.1 (HC.out.below H2.out.2.2) (by omega)).mono ?_
    rintro e w3 ⟨rfl, q3, rfl⟩
    go_wp2_with fail
    refine (sameu_any V 0 S.length ls cs ax S _ (fun j hj => by rw [Nat.zero_add]; exact H2.out.2.1 j hj) ((HS.out.below H2.out.2.2).below (below_drewN (Below.refl _ _) q3)) lS).mono ?_
    rintro e w4 ⟨rfl, q4, rfl⟩
    go_wp2_with fail
    go_ret
    exact ⟨rfl, below_drewN H2.out.2.2 _⟩
  · obtain rfl : b = false := HBT.out
    go_wp2_with fail
    go_ret
    exact ⟨rfl, H2.out.2.2⟩
set_option maxRecDepth 100000 in
theorem law_long (ac ax aa : Option Addr) (lc cc ls cs la ca : Nat) (t : Bool) (w : World) (h : 4096 < ls ∨ 4096 < la) :
    Calls Yba.prog 5 #[.slice ac lc cc, .slice ax ls cs, .slice aa la ca, .bool t] w fun e w' => e = .returned (.bool true) ∧ Below w.heap.size w w' := by
  by_cases h1 : 4096 < ls
  · have g2 : (4096 : Int) < (ls : Int) := by omega
    go_enter Yba.func5, Yba.ntmps5
    go_wp2_with fail
    go_ret
    exact ⟨rfl, Below.refl _ _⟩
  · have g2 : ¬ (4096 : Int) < (ls : Int) := by omega
    have g3 : (4096 : Int) < (la : Int) := by omega
    go_enter Yba.func5, Yba.ntmps5
    go_wp2_with fail
    go_ret
    exact ⟨rfl, Below.refl _ _⟩
end Go.Proofs.Ybulkdoo.Cert
