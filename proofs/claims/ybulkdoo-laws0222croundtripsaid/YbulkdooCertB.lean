/- LawS0222CRoundTrip: leaf contracts, part B. -/
import Derived.Test.YbulkdooCertA
import Derived.WalkSpells
namespace Go.Proofs.Ybulkdoo.Cert
open Go.RowKit

/-- The parser at block pb: not bad; its slice holds the bytes zs, at ⟨g, o⟩. -/
structure PB (w : World) (pb g o cap : Nat) (zs : List Int) : Prop where
  c0 : w.cell? ⟨pb, 0, none⟩ = some (.slice (some ⟨g, o, none⟩) zs.length cap)
  c1 : w.cell? ⟨pb, 1, none⟩ = some (.bool false)
  f0 : w.frozen? ⟨pb, 0, none⟩ = false
  f1 : w.frozen? ⟨pb, 1, none⟩ = false
  le : zs.length ≤ cap
  capm : cap ≤ maxLen
  cells : ∀ j, j < zs.length → w.cell? ⟨g, o + j, none⟩ = some (.int .u8 (zs.getD j 0))
  ne : g ≠ pb
  gl : g < w.heap.size

set_option maxRecDepth 100000 in
theorem bytes_ok (pb g o cap : Nat) (xs ys : List Int) (n : Int) (hn : n = xs.length) (w : World) (h : PB w pb g o cap (xs ++ ys)) :
    Calls Yba.prog 24 #[.pointer (some ⟨pb, 0, none⟩), .int .i64 n] w fun e w' => e = .returned (.slice (some ⟨g, o, none⟩) xs.length xs.length) ∧
      ∃ o', (ys ≠ [] → o' = o + xs.length) ∧ w' = w.setCell ⟨pb, 0, none⟩ (.slice (some ⟨g, o', none⟩) ys.length (cap - xs.length)) := by
  subst hn
  obtain ⟨c0, c1, f0, f1, le, capm, cells, ne, gl⟩ := h
  unfold maxLen at capm
  simp only [List.length_append] at c0 le
  have l1 : (xs.length : Int) ≤ ((xs.length + ys.length : Nat) : Int) := by omega
  have l0 : ¬ ((xs.length + ys.length : Nat) : Int) < (xs.length : Int) := by omega
  clear cells
  go_enter Yba.func24, Yba.ntmps24
  go_wp2_with fail
  · go_ret
    refine ⟨rfl, o, ?_, rfl⟩
    intro hy
    exfalso
    have : ys.length ≠ 0 := fun e => hy (List.eq_nil_of_length_eq_zero e)
    omega
  · go_ret
    exact ⟨rfl, o + xs.length, fun _ => rfl, rfl⟩

theorem grown_set (w : World) (pb i : Nat) (v : Value) : w.grownBy (w.setCell ⟨pb, i, none⟩ v) (some pb) :=
  ⟨rfl, rfl, rfl, by simp, fun k _ hne => Below.heap_setCell w ⟨pb, i, none⟩ v k (fun e => hne (by simp [e]))⟩
theorem grown_trans {w w1 w2 : World} {r : Option Nat} (h : w.grownBy w1 r) (k : w1.grownBy w2 r) : w.grownBy w2 r :=
  ⟨k.os.trans h.os, k.tape.trans h.tape, k.output.trans h.output, Nat.le_trans h.size k.size, fun j hj hne => (k.block j (Nat.lt_of_lt_of_le hj h.size) hne).trans (h.block j hj hne)⟩
theorem grown_below {w w1 : World} (pb : Nat) (h : Below w.heap.size w w1) : w.grownBy w1 (some pb) :=
  ⟨h.os, h.tape, h.output, h.size, fun j hj _ => h.block j hj⟩
theorem below_grown {w w1 : World} {pb B : Nat} (h : w.grownBy w1 (some pb)) (hB : B ≤ pb) (hw : B ≤ w.heap.size) : Below B w w1 :=
  ⟨h.os, h.tape, h.output, h.size, fun j hj => h.block j (Nat.lt_of_lt_of_le hj hw) (fun e => by cases e; omega)⟩
theorem grown_cell {w w1 : World} {pb g o : Nat} (h : w.grownBy w1 (some pb)) (hg : g < w.heap.size) (hne : g ≠ pb) : w1.cell? ⟨g, o, none⟩ = w.cell? ⟨g, o, none⟩ :=
  World.cell?_of_block (h.block g hg (fun e => by cases e; exact hne rfl))

theorem PB.after {w : World} {pb g o cap : Nat} {xs ys : List Int} (h : PB w pb g o cap (xs ++ ys)) {o' : Nat} (ho : ys ≠ [] → o' = o + xs.length) :
    PB (w.setCell ⟨pb, 0, none⟩ (.slice (some ⟨g, o', none⟩) ys.length (cap - xs.length))) pb g o' (cap - xs.length) ys := by
  obtain ⟨c0, c1, f0, f1, le, capm, cells, ne, gl⟩ := h
  have ne' := ne.symm
  simp only [List.length_append] at le
  refine ⟨by go_simp, by go_simp, by go_simp, by go_simp, by omega, by omega, fun j hj => ?_, ne, by simpa using gl⟩
  have hy : ys ≠ [] := fun e => by subst e; simp at hj
  rw [ho hy]
  have := cells (xs.length + j) (by simp; omega)
  rw [Nat.add_assoc]
  go_simp

theorem PB.below {w w' : World} {pb g o cap : Nat} {zs : List Int} (h : PB w pb g o cap zs) (hb : Below w.heap.size w w') : PB w' pb g o cap zs := by
  obtain ⟨c0, c1, f0, f1, le, capm, cells, ne, gl⟩ := h
  have hp : pb < w.heap.size := by
    rcases Nat.lt_or_ge pb w.heap.size with h' | h'
    · exact h'
    · simp [World.cell?, Array.getElem?_eq_none h'] at c0
  exact ⟨(hb.cell hp).trans c0, (hb.cell hp).trans c1, (hb.frozen hp).trans f0, (hb.frozen hp).trans f1, le, capm, fun j hj => (hb.cell gl).trans (cells j hj), ne, Nat.lt_of_lt_of_le gl hb.size⟩

theorem bytes_pb (pb g o cap : Nat) (xs ys : List Int) (n : Int) (hn : n = xs.length) (w : World) (h : PB w pb g o cap (xs ++ ys)) :
    Calls Yba.prog 24 #[.pointer (some ⟨pb, 0, none⟩), .int .i64 n] w fun e w' => e = .returned (.slice (some ⟨g, o, none⟩) xs.length xs.length) ∧
      (∃ o', PB w' pb g o' (cap - xs.length) ys) ∧ w.grownBy w' (some pb) ∧ ∀ j, j < xs.length → w'.cell? ⟨g, o + j, none⟩ = some (.int .u8 (xs.getD j 0)) := by
  refine (bytes_ok pb g o cap xs ys n hn w h).mono ?_
  rintro e w' ⟨rfl, o', ho, rfl⟩
  have hg := grown_set w pb 0 (.slice (some ⟨g, o', none⟩) ys.length (cap - xs.length))
  refine ⟨rfl, ⟨o', h.after ho⟩, hg, fun j hj => ?_⟩
  rw [grown_cell hg h.gl h.ne, h.cells j (by simp; omega)]
  simp [List.getD, List.getElem?_append_left hj]

theorem nil36 (a : Addr) (n c : Nat) (w : World) : (binOp .eql 36 (.slice (some a) n c) (.slice none 0 0)).run Yba.prog w = .ok (.bool false) w := by
  simpa using Lib.run_eql_slice_nil (P := Yba.prog) w 36 5 (some a) n c 0 0 Yba.underlying36

set_option maxRecDepth 100000 in
theorem u8_pb (pb g o cap : Nat) (x : Int) (ys : List Int) (w : World) (h : PB w pb g o cap (x :: ys)) :
    Calls Yba.prog 25 #[.pointer (some ⟨pb, 0, none⟩)] w fun e w' => e = .returned (.int .u8 x) ∧ (∃ o', PB w' pb g o' (cap - 1) ys) ∧ w.grownBy w' (some pb) := by
  have hnil := nil36
  go_enter Yba.func25, Yba.ntmps25
  go_wp2_with fail
  refine (bytes_pb pb g o cap [x] ys 1 rfl w h).mono ?_
  rintro e w' ⟨rfl, hp, hg, hc⟩
  have hc0 := hc 0 (by simp)
  have R : Hid _ := And.intro hp hg
  clear hp hg hc
  simp at hc0
  go_wp2_with fail
  go_ret
  exact ⟨rfl, R.out⟩

set_option maxRecDepth 100000 in
theorem u16_pb (pb g o cap : Nat) (hi lo : Int) (ys : List Int) (w : World) (h : PB w pb g o cap (hi :: lo :: ys)) (b0 : 0 ≤ hi) (b1 : hi ≤ 255) (b2 : 0 ≤ lo) (b3 : lo ≤ 255) :
    Calls Yba.prog 27 #[.pointer (some ⟨pb, 0, none⟩)] w fun e w' => e = .returned (.int .u16 (hi * 256 + lo)) ∧ (∃ o', PB w' pb g o' (cap - 2) ys) ∧ w.grownBy w' (some pb) := by
  have hnil := nil36
  go_enter Yba.func27, Yba.ntmps27
  go_wp2_with fail
  refine (bytes_pb pb g o cap [hi, lo] ys 2 rfl w h).mono ?_
  rintro e w' ⟨rfl, hp, hg, hc⟩
  have hc0 := hc 0 (by simp)
  have hc1 := hc 1 (by simp)
  have hgl : g < w'.heap.size := Nat.lt_of_lt_of_le h.gl hg.size
  have R : Hid _ := And.intro hp hg
  clear hp hg hc
  simp at hc0 hc1
  go_wp2_with fail
  refine (uint16 g o 2 2 hi lo w' (by omega) hc0 hc1 b0 b1 b2 b3 hgl).mono ?_
  rintro e w2 ⟨rfl, hb⟩
  have hb' : Hid _ := hb
  clear hb
  go_wp2_with fail
  go_ret
  obtain ⟨⟨o', hp⟩, hg⟩ := R.out
  exact ⟨rfl, ⟨o', hp.below hb'.out⟩, grown_trans hg (grown_below pb hb'.out)⟩

set_option maxRecDepth 100000 in
theorem vec8_pb (pb g o cap : Nat) (x : Int) (xs ys : List Int) (hx : x = xs.length) (hx2 : x ≤ 255) (w : World) (h : PB w pb g o cap (x :: (xs ++ ys))) :
    Calls Yba.prog 18 #[.pointer (some ⟨pb, 0, none⟩)] w fun e w' => ∃ o1, e = .returned (.slice (some ⟨g, o1, none⟩) xs.length xs.length) ∧ (∃ o' cap', PB w' pb g o' cap' ys) ∧ w.grownBy w' (some pb) ∧
      ∀ j, j < xs.length → w'.cell? ⟨g, o1 + j, none⟩ = some (.int .u8 (xs.getD j 0)) := by
  have hx0 : 0 ≤ x := by omega
  have HX : Hid _ := hx
  clear hx
  go_enter Yba.func18, Yba.ntmps18
  go_wp2_with fail
  refine (u8_pb pb g o cap x (xs ++ ys) w h).mono ?_
  rintro e w1 ⟨rfl, ⟨o1, hp1⟩, hg1⟩
  have hg1' : Hid _ := hg1
  clear hg1
  go_wp2_with fail
  refine (bytes_pb pb g o1 (cap - 1) xs ys x HX.out w1 hp1).mono ?_
  rintro e w2 ⟨rfl, ⟨o2, hp2⟩, hg2, hc2⟩
  have R : Hid _ := And.intro hp2 (And.intro hg2 hc2)
  clear hp2 hg2 hc2
  go_wp2_with fail
  go_ret
  exact ⟨o1, rfl, ⟨o2, _, R.out.1⟩, grown_trans hg1'.out R.out.2.1, R.out.2.2⟩

set_option maxRecDepth 100000 in
theorem vec16_pb (pb g o cap : Nat) (hi lo : Int) (xs ys : List Int) (b0 : 0 ≤ hi) (b1 : hi ≤ 255) (b2 : 0 ≤ lo) (b3 : lo ≤ 255) (hx : hi * 256 + lo = xs.length) (w : World) (h : PB w pb g o cap (hi :: lo :: (xs ++ ys))) :
    Calls Yba.prog 20 #[.pointer (some ⟨pb, 0, none⟩)] w fun e w' => ∃ o1, e = .returned (.slice (some ⟨g, o1, none⟩) xs.length xs.length) ∧ (∃ o' cap', PB w' pb g o' cap' ys) ∧ w.grownBy w' (some pb) ∧
      ∀ j, j < xs.length → w'.cell? ⟨g, o1 + j, none⟩ = some (.int .u8 (xs.getD j 0)) := by
  have HX : Hid _ := hx
  clear hx
  go_enter Yba.func20, Yba.ntmps20
  go_wp2_with fail
  refine (u16_pb pb g o cap hi lo (xs ++ ys) w h b0 b1 b2 b3).mono ?_
  rintro e w1 ⟨rfl, ⟨o1, hp1⟩, hg1⟩
  have hg1' : Hid _ := hg1
  clear hg1
  go_wp2_with fail
  refine (bytes_pb pb g o1 (cap - 2) xs ys _ HX.out w1 hp1).mono ?_
  rintro e w2 ⟨rfl, ⟨o2, hp2⟩, hg2, hc2⟩
  have R : Hid _ := And.intro hp2 (And.intro hg2 hc2)
  clear hp2 hg2 hc2
  go_wp2_with fail
  go_ret
  exact ⟨o1, rfl, ⟨o2, _, R.out.1⟩, grown_trans hg1'.out R.out.2.1, R.out.2.2⟩

set_option maxRecDepth 100000 in
theorem done_pb (pb g o cap : Nat) (zs : List Int) (w : World) (h : PB w pb g o cap zs) :
    Calls Yba.prog 21 #[.pointer (some ⟨pb, 0, none⟩)] w fun e w' => e = .returned (.bool ((zs.length : Int) == 0)) ∧ w' = w := by
  obtain ⟨c0, c1, f0, f1, le, capm, cells, ne, gl⟩ := h
  clear cells
  go_enter Yba.func21, Yba.ntmps21
  go_wp2_with fail
  go_ret
  exact ⟨rfl, rfl⟩
end Go.Proofs.Ybulkdoo.Cert
