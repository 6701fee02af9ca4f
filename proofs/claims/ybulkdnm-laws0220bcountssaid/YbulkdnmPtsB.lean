/- slices.Insert at []point, one element: three roads. -/
import Derived.Test.YbulkdnmPtsA
namespace Go.Proofs.Ybulkdnm.Pts
open Go.RowKit

/-- The row at g, known whole. -/
structure Row (w : World) (g n cap : Nat) (xs : List Value) (cur : Array Value) : Prop where
  blk : w.heap[g]? = some (.cells cur 60 (0, 0))
  size : cur.size = cap * 3
  le : n ≤ cap
  capm : cap ≤ maxLen
  take : cur.toList.take (n * 3) = xs

theorem Row.cell {w : World} {g n cap : Nat} {xs : List Value} {cur : Array Value} (h : Row w g n cap xs cur) (j : Nat) (u : Value) (hu : xs[j]? = some u) : w.cell? ⟨g, j, none⟩ = some u := by
  rw [← h.take] at hu
  rw [List.getElem?_take] at hu
  split at hu
  · simpa [World.cell?, h.blk] using hu
  · cases hu

set_option maxRecDepth 100000 in
set_option maxHeartbeats 400000 in
theorem insert_c (g n cap i vb : Nat) (X1 X2 V : List Value) (cur : Array Value) (w : World) (R : Row w g n cap (X1 ++ X2) cur) (hi : i < n) (hroom : n + 1 ≤ cap) (h1 : X1.length = i * 3) (hV : V.length = 3) (h2 : X2.length = (n - i) * 3)
    (hvb : vb ≠ g) (hblk : w.heap[vb]? = some (.cells V.toArray 60 (0, 0))) (o2 : ∀ v ∈ X2, v.oneCell' = true) (oV : ∀ v ∈ V, v.oneCell' = true) :
    Calls Yba.prog 8 #[.slice (some ⟨g, 0, none⟩) n cap, .int .i64 i, .slice (some ⟨vb, 0, none⟩) 1 1] w fun e w' => e = .returned (.slice (some ⟨g, 0, none⟩) (n + 1) cap) ∧ ∃ q cur', w' = (w.drewN q).setRow g cur' ∧ cur'.size = cap * 3 ∧ cur'.toList.take ((n + 1) * 3) = X1 ++ V ++ X2 := by
  have hcapm := R.capm
  unfold maxLen at hcapm
  have hov : ∀ lb cb, (callFunc 11 #[.slice (some ⟨vb, 0, none⟩) 1 1, .slice (some ⟨g, (i + 1) * 3, none⟩) lb cb]).run Yba.prog w = .ok (.value (.bool false)) w := fun lb cb => by
    rw [run_callFunc_extern Yba.func11 (by kernel_rfl) (by kernel_rfl) (by kernel_rfl) (e := Extern.SlicesOverlaps.overlaps #[31, 31] #[4]) (by kernel_rfl),
      Lib.run_overlaps_apart w 31 4 60 Yba.underlying31 3 Yba.sizeOf60 ⟨vb, 0, none⟩ ⟨g, (i + 1) * 3, none⟩ 1 1 lb cb hvb 60 60 3 (cap * 3) (by simp [World.shape?, hblk, hV]) (by simp [World.shape?, R.blk, R.size]) (by omega) (by simp [World.frozen?, hblk]) (by simp [World.frozen?, hblk])]
    rfl
  have hle : (i : Int) ≤ (n : Int) := by omega
  have hne : ¬ (i : Int) = (n : Int) := by omega
  have hb1 : ¬ cap = i := by omega
  have hb2 : ¬ cap = i + 1 := by omega
  have hb3 : ¬ (cap : Int) < (n : Int) + 1 := by omega
  have hb4 : (n : Int) + 1 ≤ (cap : Int) := by omega
  have hb5 : (i : Int) + 1 ≤ (n : Int) + 1 := by omega
  have hb6 : (i : Int) ≤ (n : Int) + 1 := by omega
  have hw1 : IntKind.i64.wrap ((i : Int) + 1) = (i : Int) + 1 := by rw [IntKind.wrap_i64]; omega
  have hb7 : (0 : Int) ≤ (i : Int) + 1 := by omega
  have htn : ((i : Int) + 1).toNat = i + 1 := by omega
  have hX2 : ∀ j v, X2[j]? = some v → w.cell? ⟨g, i * 3 + j, none⟩ = some v := fun j v hj => R.cell (i * 3 + j) v (by rw [← h1, List.getElem?_append_right (by omega)]; simpa using hj)
  have hlen : cur.toList.length = cap * 3 := by simpa using R.size
  have hcp1 : ∀ ty dc sc, (Builtin.copy_ #[31, 31] ty #[.slice (some ⟨g, (i + 1) * 3, none⟩) (n - i) dc, .slice (some ⟨g, i * 3, none⟩) (n + 1 - i) sc]).run Yba.prog w.drew =
      .ok (goInt (Nat.min (n + 1 - i) (n - i))) (w.drew.setRow g (cur.toList.take ((i + 1) * 3) ++ X2 ++ cur.toList.drop ((i + 1) * 3 + X2.length)).toArray) := fun ty dc sc =>
    run_copy3 w.drew ty g ((i + 1) * 3) _ dc ⟨g, i * 3, none⟩ _ sc cur 60 X2 R.blk (by rw [h2]; simp only [Nat.min_def]; split <;> omega) (fun j v hj => by rw [Go.WideShapes.add_plain]; exact hX2 j v hj) (by rw [h2, R.size]; omega) o2
  obtain ⟨A1, hA1⟩ : ∃ A1, A1 = cur.toList.take ((i + 1) * 3) ++ X2 ++ cur.toList.drop ((i + 1) * 3 + X2.length) := ⟨_, rfl⟩
  have hA1l : A1.length = cap * 3 := by rw [hA1]; simp only [List.length_append, List.length_take, List.length_drop, hlen]; omega
  have hcp2 : ∀ (W : World), W.heap = (w.setRow g A1.toArray).heap → ∀ ty dc, (Builtin.copy_ #[31, 31] ty #[.slice (some ⟨g, i * 3, none⟩) (n + 1 - i) dc, .slice (some ⟨vb, 0, none⟩) 1 1]).run Yba.prog W =
      .ok (goInt (Nat.min 1 (n + 1 - i))) (W.setRow g (A1.take (i * 3) ++ V ++ A1.drop (i * 3 + V.length)).toArray) := fun W hW ty dc => by
    have hb : W.heap[g]? = some (.cells A1.toArray 60 (0, 0)) := by rw [hW]; exact setRow_heap w g cur _ 60 _ R.blk
    have hv : W.heap[vb]? = some (.cells V.toArray 60 (0, 0)) := by rw [hW]; exact (setRow_other w g vb _ hvb).trans hblk
    have := run_copy3 W ty g (i * 3) (n + 1 - i) dc ⟨vb, 0, none⟩ 1 1 A1.toArray 60 V hb (by rw [hV]; simp only [Nat.min_def]; split <;> omega) (fun j v hj => by rw [Go.WideShapes.add_plain]; simpa [World.cell?, hv] using hj) (by simp only [List.size_toArray]; omega) oV
    simpa using this
  rw [← hA1] at hcp1
  have HC1 : Hid _ := hcp1
  have HC2 : Hid _ := hcp2
  have HA1 : Hid _ := hA1
  have HA1l : Hid _ := hA1l
  have H1 : Hid _ := h1
  have H2 : Hid _ := h2
  have HV : Hid _ := hV
  have HB : Hid _ := hblk
  have HR : Hid _ := R
  clear hcp1 hcp2 hX2 hA1 hA1l hlen h1 h2 hV hblk R o2 oV
  go_enter Yba.func8, Yba.ntmps8
  go_wp2_with (simp only [hov])
  go_region_law (refine step_copy_run rfl (.tmp 73) (.tmp 76) 31 31 rfl (.slice (some ⟨g, (i + 1) * 3, none⟩) (n - i) (cap - (i + 1))) (.slice (some ⟨g, i * 3, none⟩) (n + 1 - i) (cap - i)) (by simp [Act.eval, Act.put]) (by simp [Act.eval, Act.put]) (HC1.out _ _ _) ?_)
  go_wp2_with fail
  rw [HC2.out (w.drew.setRow g A1.toArray) rfl]
  go_wp2_with fail
  go_ret
  refine ⟨rfl, 1, (A1.take (i * 3) ++ V ++ A1.drop (i * 3 + V.length)).toArray, ?_, ?_, ?_⟩
  · rw [← setRow_setRow (w.drewN 1) g A1.toArray, List.append_assoc]
    rfl
  · simp only [List.size_toArray, List.length_append, List.length_take, List.length_drop, HA1l.out, HV.out]
    omega
  · rw [HA1.out]
    exact lists_c cur.toList X1 X2 V i n H1.out HV.out H2.out (by omega) HR.out.take (by simp [HR.out.size]; omega)

set_option maxRecDepth 100000 in
set_option maxHeartbeats 400000 in
theorem insert_b (g n cap i vb : Nat) (X1 X2 V : List Value) (cur : Array Value) (w : World) (R : Row w g n cap (X1 ++ X2) cur) (hi : i < n) (hroom : cap < n + 1) (hsm : n ≤ 5000) (h1 : X1.length = i * 3) (hV : V.length = 3) (h2 : X2.length = (n - i) * 3)
    (hvb : vb < w.heap.size) (hblk : w.heap[vb]? = some (.cells V.toArray 60 (0, 0))) (o2 : ∀ v ∈ X2, v.oneCell' = true) (oV : ∀ v ∈ V, v.oneCell' = true) :
    Calls Yba.prog 8 #[.slice (some ⟨g, 0, none⟩) n cap, .int .i64 i, .slice (some ⟨vb, 0, none⟩) 1 1] w fun e w' => ∃ cap', e = .returned (.slice (some ⟨w.heap.size, 0, none⟩) (n + 1) cap') ∧ n + 1 ≤ cap' ∧ cap' ≤ maxLen ∧ Below w.heap.size w w' ∧
      ∃ cur' : Array Value, w'.heap[w.heap.size]? = some (.cells cur' 60 (0, 0)) ∧ cur'.size = cap' * 3 ∧ cur'.toList.take ((n + 1) * 3) = X1 ++ V ++ X2 := by
  have hle : (i : Int) ≤ (n : Int) := by omega
  have hne : ¬ (i : Int) = (n : Int) := by omega
  have hb3 : (cap : Int) < (n : Int) + 1 := by omega
  have hcn : cap = n := by have := R.le; omega
  subst hcn
  have hgl : g < w.heap.size := (Array.getElem?_eq_some_iff.1 R.blk).1
  have hb1 : ¬ cap = i := by omega
  obtain ⟨c2, hc2⟩ : ∃ c2, c2 = grownCap w (i + (cap + 1 - i)) cap 60 := ⟨_, rfl⟩
  have hc2a : cap + 1 ≤ c2 := by have := grownCap_ge w (i + (cap + 1 - i)) cap 60; omega
  have hc2b : c2 ≤ maxLen := by rw [hc2]; exact grownCap_le_maxLen w _ _ _ (by unfold maxLen; omega)
  have hap := run_append_zeros_grow w 31 g i cap (cap + 1 - i) X1 h1 (fun j u hj => by rw [Go.WideShapes.add_plain, Nat.zero_add]; exact R.cell j u (by rw [List.getElem?_append_left (List.getElem?_eq_some_iff.1 hj).1]; exact hj)) (by omega) (by omega) (by omega)
  rw [← hc2, show i + (cap + 1 - i) = cap + 1 by omega] at hap
  obtain ⟨Z, hZ⟩ : ∃ Z : Array Value, Z = X1.toArray ++ Builtin.zeroCells #[.int .i64 0, .int .i64 0, .slice none 0 0] (cap + 1 - i) ++ Builtin.zeroCells #[.int .i64 0, .int .i64 0, .slice none 0 0] (c2 - (cap + 1)) := ⟨_, rfl⟩
  have hZs : Z.size = c2 * 3 := by rw [hZ]; simp only [Array.size_append, List.size_toArray, size_zeroCells, h1]; simp; omega
  have hZt : Z.toList.take (i * 3) = X1 := by rw [hZ]; simp only [Array.toList_append, List.append_assoc]; exact List.take_left' h1
  rw [← hZ] at hap
  have hint : ((cap : Int) + 1 - (i : Int)) = ((cap + 1 - i : Nat) : Int) := by omega
  rw [← hint] at hap
  have HAP : Hid _ := hap
  clear hap hint
  obtain ⟨A1, hA1⟩ : ∃ A1, A1 = Z.toList.take (i * 3) ++ V ++ Z.toList.drop (i * 3 + V.length) := ⟨_, rfl⟩
  have hA1l : A1.length = c2 * 3 := by rw [hA1]; simp only [List.length_append, List.length_take, List.length_drop, Array.length_toList, hZs]; omega
  have hcp1 : ∀ (W : World), W.heap = (w.alloc (.cells Z 60)).heap → ∀ ty dc, (Builtin.copy_ #[31, 31] ty #[.slice (some ⟨w.heap.size, i * 3, none⟩) (cap + 1 - i) dc, .slice (some ⟨vb, 0, none⟩) 1 1]).run Yba.prog W =
      .ok (goInt (Nat.min 1 (cap + 1 - i))) (W.setRow w.heap.size A1.toArray) := fun W hW ty dc => by
    have hv : W.heap[vb]? = some (.cells V.toArray 60 (0, 0)) := by rw [hW]; exact (Below.heap_alloc w _ vb hvb).trans hblk
    have := run_copy3 W ty w.heap.size (i * 3) (cap + 1 - i) dc ⟨vb, 0, none⟩ 1 1 Z 60 V (by rw [hW]; exact heap_alloc_new w _) (by rw [hV]; simp only [Nat.min_def]; split <;> omega) (fun j v hj => by rw [Go.WideShapes.add_plain]; simpa [World.cell?, hv] using hj) (by rw [hZs]; omega) oV
    rw [hA1]
    exact this
  have hcp2 : ∀ (W : World), W.heap = ((w.alloc (.cells Z 60)).setRow w.heap.size A1.toArray).heap → ∀ ty dc sc, (Builtin.copy_ #[31, 31] ty #[.slice (some ⟨w.heap.size, (i + 1) * 3, none⟩) (cap - i) dc, .slice (some ⟨g, i * 3, none⟩) (cap - i) sc]).run Yba.prog W =
      .ok (goInt (Nat.min (cap - i) (cap - i))) (W.setRow w.heap.size (A1.take ((i + 1) * 3) ++ X2 ++ A1.drop ((i + 1) * 3 + X2.length)).toArray) := fun W hW ty dc sc => by
    have hb : W.heap[w.heap.size]? = some (.cells A1.toArray 60 (0, 0)) := by rw [hW]; exact setRow_heap _ _ _ _ 60 _ (heap_alloc_new w _)
    have hg : W.heap[g]? = some (.cells cur 60 (0, 0)) := by rw [hW]; exact (setRow_other _ _ g _ (by omega)).trans ((Below.heap_alloc w _ g hgl).trans R.blk)
    have RR : Row W g cap cap (X1 ++ X2) cur := ⟨hg, R.size, R.le, R.capm, R.take⟩
    have := run_copy3 W ty w.heap.size ((i + 1) * 3) (cap - i) dc ⟨g, i * 3, none⟩ (cap - i) sc A1.toArray 60 X2 hb (by rw [h2]; simp only [Nat.min_def]; split <;> omega) (fun j v hj => by rw [Go.WideShapes.add_plain]; exact RR.cell (i * 3 + j) v (by rw [← h1, List.getElem?_append_right (by omega)]; simpa using hj)) (by simp only [List.size_toArray]; rw [hA1l, h2]; omega) o2
    simpa using this
  have hw1 : IntKind.i64.wrap ((i : Int) + 1) = (i : Int) + 1 := by rw [IntKind.wrap_i64]; omega
  have hb7 : (0 : Int) ≤ (i : Int) + 1 := by omega
  have htn : ((i : Int) + 1).toNat = i + 1 := by omega
  have hb2 : ¬ c2 = i + 1 := by omega
  have hb4 : ¬ c2 = i := by omega
  have hb5 : (i : Int) + 1 ≤ (cap : Int) + 1 := by omega
  have hb6 : (i : Int) ≤ (cap : Int) + 1 := by omega
  have HC1 : Hid _ := hcp1
  have HC2 : Hid _ := hcp2
  have HA1 : Hid _ := hA1
  have HA1l : Hid _ := hA1l
  have H1 : Hid _ := h1
  have H2 : Hid _ := h2
  have HV : Hid _ := hV
  have HR : Hid _ := R
  have HZt : Hid _ := hZt
  clear hc2 h1 h2 hV hblk R hZ hZs hZt o2 oV hcp1 hcp2 hA1 hA1l
  go_enter Yba.func8, Yba.ntmps8
  go_wp2_with (at_builtin; refine Lib.wpList_append_run _ rfl (.tmp 34) (.tmp 39) 31 3 rfl (.slice (some ⟨g, 0, none⟩) i cap) (.int .i64 ((cap : Int) + 1 - (i : Int))) rfl rfl _ _ HAP.out ?_)
  rw [HC1.out (w.alloc (.cells Z 60)).drew rfl]
  go_wp2_with fail
  go_region_law (refine step_copy_run rfl (.tmp 50) (.tmp 53) 31 31 rfl (.slice (some ⟨w.heap.size, (i + 1) * 3, none⟩) (cap - i) (c2 - (i + 1))) (.slice (some ⟨g, i * 3, none⟩) (cap - i) (cap - i)) (by simp [Act.eval, Act.put]) (by simp [Act.eval, Act.put]) (HC2.out (((w.alloc (.cells Z 60)).drew.setRow w.heap.size A1.toArray).drew) rfl _ _ _) ?_)
  go_wp2_with fail
  go_ret
  refine ⟨c2, rfl, hc2a, hc2b, ?_, _, setRow_heap _ w.heap.size A1.toArray _ 60 (0, 0) (setRow_heap _ w.heap.size Z _ 60 (0, 0) (heap_alloc_new w _)), ?_, ?_⟩
  · exact below_setRow (below_setRow ((Below.refl _ _).alloc (Nat.le_refl _) _).drew (Nat.le_refl _) _).drew (Nat.le_refl _) _
  · simp only [List.size_toArray, List.length_append, List.length_take, List.length_drop, HA1l.out, H2.out]
    omega
  · rw [HA1.out]
    rw [← List.append_assoc _ X2 _]
    exact lists_b Z.toList X1 X2 V i cap H1.out HV.out H2.out (by omega) HZt.out

/-- What slices.Insert leaves. -/
def InsPost (w : World) (B g n : Nat) (xs : List Value) (e : Ending) (w' : World) : Prop :=
  ∃ g' cap' cur', e = .returned (.slice (some ⟨g', 0, none⟩) (n + 1) cap') ∧ B ≤ g' ∧ Row w' g' (n + 1) cap' xs cur' ∧ w.grownBy w' (some g)

theorem row_own {w : World} {B g n cap : Nat} {xs : List Value} {cur : Array Value} (h : Row w g n cap xs cur) (hB : B ≤ g) : w.ownsRow B 60 3 (.slice (some ⟨g, 0, none⟩) n cap) n xs :=
  ⟨by rw [← h.take, List.length_take]; simp [h.size]; have := h.le; omega, .inr ⟨g, cap, cur, rfl, hB, h.blk, h.le, h.capm, h.size, h.take⟩⟩
theorem own_row {w : World} {B n : Nat} {v : Value} {xs : List Value} (h : w.ownsRow B 60 3 v n xs) (hn : ¬ v = .slice none 0 0) : ∃ g cap cur, v = .slice (some ⟨g, 0, none⟩) n cap ∧ B ≤ g ∧ Row w g n cap xs cur := by
  obtain ⟨_, ⟨h, _⟩ | ⟨g, cap, cur, e, hB, hb, h1, h2, h3, h4⟩⟩ := h
  · exact absurd h hn
  · exact ⟨g, cap, cur, e, hB, hb, h3, h1, h2, h4⟩

set_option maxRecDepth 100000 in
set_option maxHeartbeats 400000 in
theorem insert_a (B g n cap vb : Nat) (X1 V : List Value) (cur : Array Value) (w : World) (R : Row w g n cap X1 cur) (hB : B ≤ g) (hBw : B ≤ w.heap.size) (hsm : n ≤ 5000) (hV : V.length = 3)
    (hblk : w.heap[vb]? = some (.cells V.toArray 60 (0, 0))) (oV : ∀ v ∈ V, v.oneCell' = true) :
    Calls Yba.prog 8 #[.slice (some ⟨g, 0, none⟩) n cap, .int .i64 n, .slice (some ⟨vb, 0, none⟩) 1 1] w fun e w' => InsPost w B g n (X1 ++ V) e w' := by
  obtain ⟨i0, hi0, hz0, hz1, hz2⟩ := info_parts info60
  have hown : w.ownsRow B 60 3 (.slice (some ⟨g, 0, none⟩) n cap) n X1 := row_own R hB
  have HO : Hid _ := hown
  have HV : Hid _ := hV
  have hnews : ∀ j u, V[j]? = some u → w.cell? ((⟨vb, 0, none⟩ : Addr).add j) = some u := fun j u hj => by rw [Go.WideShapes.add_plain]; simpa [World.cell?, hblk] using hj
  have HN : Hid _ := hnews
  have OV : Hid _ := oV
  clear hown hV hnews hblk oV R
  go_enter Yba.func8, Yba.ntmps8
  go_wp2_with (at_builtin; refine wpList_append_own _ rfl (.tmp 23) (.tmp 24) 31 rfl B 60 i0 (.agg #[.int .i64 0, .int .i64 0, .slice none 0 0]) 3 40 Yba.underlying31 hi0 hz0 hz1 hz2 rfl (by decide) (.slice (some ⟨g, 0, none⟩) n cap) n X1 rfl HO.out ⟨vb, 0, none⟩ 1 1 V rfl HV.out HN.out OV.out (by unfold maxLen; omega) (by omega) hBw ?_; intro v' w1 hown' hgr' hnil'; obtain ⟨g', cap', cur', rfl, hB', R'⟩ := own_row hown' (by rw [hnil']; simp); have HH : Hid _ := And.intro hB' (And.intro R' hgr'); clear hown' hgr' hnil' hB' R')
  all_goals
    go_ret
    exact ⟨g', cap', cur', rfl, HH.out.1, HH.out.2.1, HH.out.2.2⟩

theorem insert_any (B g n cap i vb : Nat) (X1 X2 V : List Value) (cur : Array Value) (w : World) (R : Row w g n cap (X1 ++ X2) cur) (hB : B ≤ g) (hBw : B ≤ w.heap.size) (hi : i ≤ n) (hsm : n ≤ 5000) (h1 : X1.length = i * 3) (hV : V.length = 3)
    (hvb : vb ≠ g) (hblk : w.heap[vb]? = some (.cells V.toArray 60 (0, 0))) (o2 : ∀ v ∈ X2, v.oneCell' = true) (oV : ∀ v ∈ V, v.oneCell' = true) :
    Calls Yba.prog 8 #[.slice (some ⟨g, 0, none⟩) n cap, .int .i64 i, .slice (some ⟨vb, 0, none⟩) 1 1] w fun e w' => InsPost w B g n (X1 ++ V ++ X2) e w' := by
  have hl : (X1 ++ X2).length = n * 3 := by rw [← R.take, List.length_take]; simp [R.size]; have := R.le; omega
  have h2 : X2.length = (n - i) * 3 := by rw [List.length_append, h1] at hl; omega
  by_cases hin : i = n
  · subst hin
    have e2 : X2 = [] := List.eq_nil_of_length_eq_zero (by omega)
    subst e2
    simp only [List.append_nil] at R ⊢
    exact insert_a B g i cap vb X1 V cur w R hB hBw hsm hV hblk oV
  · have hvl : vb < w.heap.size := (Array.getElem?_eq_some_iff.1 hblk).1
    by_cases hr : n + 1 ≤ cap
    · refine (insert_c g n cap i vb X1 X2 V cur w R (by omega) hr h1 hV h2 hvb hblk o2 oV).mono ?_
      rintro e w' ⟨he, q, cur', rfl, hs, ht⟩
      refine ⟨g, cap, cur', he, hB, ⟨setRow_heap _ g cur _ 60 _ R.blk, hs, hr, R.capm, ht⟩, ?_⟩
      exact ⟨rfl, rfl, rfl, by simp, fun k _ hk => setRow_other _ g k _ (fun e => hk (by rw [e]))⟩
    · refine (insert_b g n cap i vb X1 X2 V cur w R (by omega) (by omega) hsm h1 hV h2 hvl hblk o2 oV).mono ?_
      rintro e w' ⟨cap', he, c1, c2, hb, cur', hblk', hs, ht⟩
      exact ⟨w.heap.size, cap', cur', he, hBw, ⟨hblk', hs, c1, c2, ht⟩, ⟨hb.os, hb.tape, hb.output, hb.size, fun k hk _ => hb.block k hk⟩⟩
end Go.Proofs.Ybulkdnm.Pts
