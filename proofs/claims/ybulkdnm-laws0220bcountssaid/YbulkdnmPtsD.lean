/- (*multiversion).gap and hold. -/
import Derived.Test.YbulkdnmPtsC
namespace Go.Proofs.Ybulkdnm.Pts
open Go.RowKit

/-- The cells of a list of points: the timestamp, the count, no items. -/
def penc (L : List (Int × Int)) : List Value := L.flatMap fun p => [.int .i64 p.1, .int .i64 p.2, .slice none 0 0]
theorem penc_len (L : List (Int × Int)) : (penc L).length = L.length * 3 := by
  induction L with
  | nil => rfl
  | cons p L ih => simp [penc] at ih ⊢; omega
theorem penc_append (L M : List (Int × Int)) : penc (L ++ M) = penc L ++ penc M := by simp [penc]
theorem penc_cons (p : Int × Int) (L : List (Int × Int)) : penc (p :: L) = [.int .i64 p.1, .int .i64 p.2, .slice none 0 0] ++ penc L := by simp [penc]
theorem penc_one (L : List (Int × Int)) : ∀ v ∈ penc L, v.oneCell' = true := by
  intro v hv
  simp only [penc, List.mem_flatMap, List.mem_cons, List.not_mem_nil, or_false] at hv
  obtain ⟨p, _, rfl | rfl | rfl⟩ := hv <;> rfl
theorem penc_at (L : List (Int × Int)) (i : Nat) (p : Int × Int) (h : L[i]? = some p) : (penc L)[i * 3]? = some (.int .i64 p.1) ∧ (penc L)[i * 3 + 1]? = some (.int .i64 p.2) ∧ (penc L)[i * 3 + 2]? = some (.slice none 0 0) := by
  have hi : i < L.length := (List.getElem?_eq_some_iff.1 h).1
  have e : L = L.take i ++ p :: L.drop (i + 1) := by
    have : L[i] = p := by rw [List.getElem?_eq_getElem hi] at h; exact Option.some.inj h
    rw [← this, List.getElem_cons_drop]; simp
  have hl : (penc (L.take i)).length = i * 3 := by rw [penc_len, List.length_take]; congr 1; omega
  rw [e, penc_append, penc_cons]
  refine ⟨?_, ?_, ?_⟩
  · rw [List.getElem?_append_right (by omega), hl]; simp
  · rw [List.getElem?_append_right (by omega), hl]; simp
  · rw [List.getElem?_append_right (by omega), hl]; simp
theorem penc_set (L : List (Int × Int)) (i : Nat) (p : Int × Int) (h : L[i]? = some p) (c : Int) : (penc L).set (i * 3 + 1) (.int .i64 c) = penc (L.set i (p.1, c)) := by
  have hi : i < L.length := (List.getElem?_eq_some_iff.1 h).1
  have e : L = L.take i ++ p :: L.drop (i + 1) := by
    have : L[i] = p := by rw [List.getElem?_eq_getElem hi] at h; exact Option.some.inj h
    rw [← this, List.getElem_cons_drop]; simp
  have hl : (penc (L.take i)).length = i * 3 := by rw [penc_len, List.length_take]; congr 1; omega
  have hl2 : (L.take i).length = i := by rw [List.length_take]; omega
  have e2 : L.set i (p.1, c) = L.take i ++ (p.1, c) :: L.drop (i + 1) := by
    conv => lhs; rw [e]
    rw [List.set_append_right _ _ (by omega), hl2]; simp
  rw [e2]
  conv => lhs; rw [e]
  rw [penc_append, penc_append, penc_cons, penc_cons, List.set_append_right _ _ (by omega), hl]
  simp

theorem Row.setCell {w : World} {g n cap : Nat} {xs : List Value} {cur : Array Value} (h : Row w g n cap xs cur) (j : Nat) (v : Value) : Row (w.setCell ⟨g, j, none⟩ v) g n cap (xs.set j v) (cur.setIfInBounds j v) := by
  obtain ⟨blk, size, le, capm, take⟩ := h
  rw [setCell_eq_setRow w g j cur 60 (0, 0) v blk]
  refine ⟨setRow_heap w g cur _ 60 _ blk, by simpa using size, le, capm, ?_⟩
  rw [Array.toList_setIfInBounds, List.take_set, take]
theorem Row.other {w w' : World} {g n cap : Nat} {xs : List Value} {cur : Array Value} (h : Row w g n cap xs cur) (e : w'.heap[g]? = w.heap[g]?) : Row w' g n cap xs cur :=
  ⟨e.trans h.blk, h.size, h.le, h.capm, h.take⟩
theorem Row.fz {w : World} {g n cap : Nat} {xs : List Value} {cur : Array Value} (h : Row w g n cap xs cur) (j : Nat) : w.frozen? ⟨g, j, none⟩ = false := by
  simp [World.frozen?, h.blk]
theorem Row.lt {w : World} {g n cap : Nat} {xs : List Value} {cur : Array Value} (h : Row w g n cap xs cur) : g < w.heap.size := (Array.getElem?_eq_some_iff.1 h.blk).1

/-- The multiversion at mb: its points are L. -/
structure MV (w : World) (B mb : Nat) (L : List (Int × Int)) (g cap : Nat) : Prop where
  blk : ∃ mc : Array Value, w.heap[mb]? = some (.cells mc 56 (0, 0)) ∧ mc[11]? = some (.slice (some ⟨g, 0, none⟩) L.length cap)
  row : ∃ cur, Row w g L.length cap (penc L) cur
  bm : B ≤ mb
  bg : B ≤ g

theorem MV.cell {w : World} {B mb : Nat} {L : List (Int × Int)} {g cap : Nat} (h : MV w B mb L g cap) : w.cell? ⟨mb, 11, none⟩ = some (.slice (some ⟨g, 0, none⟩) L.length cap) := by
  obtain ⟨mc, h1, h2⟩ := h.blk
  simp [World.cell?, h1, h2]
theorem MV.fz {w : World} {B mb : Nat} {L : List (Int × Int)} {g cap : Nat} (h : MV w B mb L g cap) : w.frozen? ⟨mb, 11, none⟩ = false := by
  obtain ⟨mc, h1, h2⟩ := h.blk
  simp [World.frozen?, h1]
theorem MV.lt {w : World} {B mb : Nat} {L : List (Int × Int)} {g cap : Nat} (h : MV w B mb L g cap) : mb < w.heap.size := by
  obtain ⟨mc, h1, h2⟩ := h.blk
  exact (Array.getElem?_eq_some_iff.1 h1).1
theorem MV.ne {w : World} {B mb : Nat} {L : List (Int × Int)} {g cap : Nat} (h : MV w B mb L g cap) : g ≠ mb := by
  rintro rfl
  obtain ⟨mc, h1, _⟩ := h.blk
  obtain ⟨cur, R⟩ := h.row
  have := h1.symm.trans R.blk
  simp at this
theorem MV.other {w w' : World} {B mb : Nat} {L : List (Int × Int)} {g cap : Nat} (h : MV w B mb L g cap) (e1 : w'.heap[mb]? = w.heap[mb]?) (e2 : w'.heap[g]? = w.heap[g]?) : MV w' B mb L g cap := by
  obtain ⟨⟨mc, h1, h2⟩, ⟨cur, R⟩, bm, bg⟩ := h
  exact ⟨⟨mc, e1.trans h1, h2⟩, ⟨cur, R.other e2⟩, bm, bg⟩
theorem MV.below {w w' : World} {B mb : Nat} {L : List (Int × Int)} {g cap : Nat} (h : MV w B mb L g cap) (hb : Below w.heap.size w w') : MV w' B mb L g cap := by
  obtain ⟨cur, R⟩ := h.row
  exact h.other (hb.block _ h.lt) (hb.block _ R.lt)
theorem MV.at_ {w : World} {B mb : Nat} {L : List (Int × Int)} {g cap : Nat} (h : MV w B mb L g cap) (i : Nat) (p : Int × Int) (hp : L[i]? = some p) :
    w.cell? ⟨g, i * 3, none⟩ = some (.int .i64 p.1) ∧ w.cell? ⟨g, i * 3 + 1, none⟩ = some (.int .i64 p.2) ∧ w.cell? ⟨g, i * 3 + 2, none⟩ = some (.slice none 0 0) ∧ g < w.heap.size := by
  obtain ⟨cur, R⟩ := h.row
  obtain ⟨e1, e2, e3⟩ := penc_at L i p hp
  exact ⟨R.cell _ _ e1, R.cell _ _ e2, R.cell _ _ e3, R.lt⟩

/-- Strictly ascending timestamps. -/
def Asc (L : List (Int × Int)) : Prop := ∀ (i j : Nat) (p q : Int × Int), i < j → L[i]? = some p → L[j]? = some q → p.1 < q.1

set_option maxRecDepth 100000 in
theorem gap_any (B mb g cap : Nat) (L : List (Int × Int)) (ts : Int) (w : World) (M : MV w B mb L g cap) (hA : Asc L) (hn : L.length ≤ 2000) :
    Calls Yba.prog 7 #[.pointer (some ⟨mb, 0, none⟩), .int .i64 ts] w fun e w' => ∃ r : Nat, e = .returned (.int .i64 r) ∧ Hid (Below w.heap.size w w' ∧ r ≤ L.length ∧ (∀ (i : Nat) (p : Int × Int), i < r → L[i]? = some p → p.1 < ts) ∧ ∀ (i : Nat) (p : Int × Int), r ≤ i → L[i]? = some p → ts ≤ p.1) := by
  have hc := M.cell
  have hlt := M.lt
  have hmf := mf
  have HM : Hid _ := M
  have HA : Hid _ := hA
  clear hA M
  go_enter Yba.func7, Yba.ntmps7
  go_wp2_with fail
  have b2 : Below w.heap.size w ((w.alloc (.cells #[.pointer (some ⟨mb, 0, none⟩)] 23)).alloc (.cells #[.int .i64 ts] 2)) := ((Below.refl _ _).alloc (Nat.le_refl _) _).alloc (by simp) _
  have B2 : Hid _ := b2
  clear b2
  refine (search_any w.heap.size (w.heap.size + 1) mb g L.length cap ts (fun i => (L.getD i (0, 0)).1) _ (by go_simp) (by go_simp) ((B2.out.cell (p := ⟨mb, 11, none⟩) hlt).trans hc) (fun i hi => ?_) (fun i j hij hj => ?_) (by omega)).mono ?_
  · have e : L[i]? = some (L.getD i (0, 0)) := by simp [List.getD, hi]
    have h4 := (HM.out.at_ i _ e)
    exact (B2.out.cell (p := ⟨g, i * 3, none⟩) h4.2.2.2).trans h4.1
  · have e1 : L[i]? = some (L.getD i (0, 0)) := by simp [List.getD, (show i < L.length by omega)]
    have e2 : L[j]? = some (L.getD j (0, 0)) := by simp [List.getD, hj]
    exact HA.out i j _ _ hij e1 e2
  rintro e w' ⟨r, q, rfl, rfl, HR⟩
  go_wp2_with fail
  go_ret
  refine ⟨r, rfl, below_drewN B2.out q, HR.out.1, fun i p hi hp => ?_, fun i p hi hp => ?_⟩
  · have := HR.out.2.1 i hi
    rw [List.getD, hp] at this
    exact this
  · have := HR.out.2.2 i hi ((List.getElem?_eq_some_iff.1 hp).1)
    rw [List.getD, hp] at this
    exact this

/-- What hold makes of the points, at the place r that gap gave. -/
def holdL (L : List (Int × Int)) (ts : Int) (r : Nat) : List (Int × Int) :=
  match L[r]? with
  | some p => if p.1 = ts then L.set r (p.1, p.2 + 1) else L.take r ++ (ts, 1) :: L.drop r
  | none => L.take r ++ (ts, 1) :: L.drop r

def HoldPost (w : World) (B mb : Nat) (L : List (Int × Int)) (ts : Int) (w' : World) : Prop :=
  ∃ r g' cap', MV w' B mb (holdL L ts r) g' cap' ∧ Below B w w' ∧ r ≤ L.length ∧ (∀ (i : Nat) (p : Int × Int), i < r → L[i]? = some p → p.1 < ts) ∧ ∀ (i : Nat) (p : Int × Int), r ≤ i → L[i]? = some p → ts ≤ p.1

theorem grown_below' {w w1 : World} {g B : Nat} (h : w.grownBy w1 (some g)) (hB : B ≤ g) (hw : B ≤ w.heap.size) : Below B w w1 :=
  ⟨h.os, h.tape, h.output, h.size, fun j hj => h.block j (Nat.lt_of_lt_of_le hj hw) (fun e => by cases e; omega)⟩

set_option maxRecDepth 100000 in
theorem hold_same (B mb g cap : Nat) (L : List (Int × Int)) (ts : Int) (c : Int) (r : Nat) (w : World) (M : MV w B mb L g cap) (hA : Asc L) (hn : L.length ≤ 2000) (hr : L[r]? = some (ts, c)) (hc0 : 0 ≤ c) (hc1 : c ≤ 5000) :
    Calls Yba.prog 5 #[.pointer (some ⟨mb, 0, none⟩), .int .i64 ts] w fun e w' => e = .returned (.tuple #[]) ∧ HoldPost w B mb L ts w' := by
  have HM : Hid _ := M
  have HA : Hid _ := hA
  have HR : Hid _ := hr
  clear hA M hr
  go_enter Yba.func5, Yba.ntmps5
  go_wp2_with fail
  refine (gap_any B mb g cap L ts w HM.out HA.out hn).mono ?_
  rintro e w1 ⟨r', rfl, H1⟩
  have er : r' = r := by
    obtain ⟨_, h0, h1, h2⟩ := H1.out
    have hrl : r < L.length := (List.getElem?_eq_some_iff.1 HR.out).1
    rcases Nat.lt_trichotomy r' r with h | h | h
    · have e1 : L[r']? = some (L[r']'(by omega)) := List.getElem?_eq_getElem _
      have a1 := h2 r' _ (Nat.le_refl _) e1
      have a2 := HA.out r' r _ _ h e1 HR.out
      simp at a2
      omega
    · exact h
    · have := h1 r _ h HR.out
      simp at this
  subst er
  have M1 := HM.out.below H1.out.1
  have hrl : r' < L.length := (List.getElem?_eq_some_iff.1 HR.out).1
  have hrl1 : (r' : Int) < (L.length : Int) := by omega
  have hne : ((r' : Int) == (L.length : Int)) = false := by simp; omega
  have k0 := M1.cell
  obtain ⟨k1, k2, k3, k4⟩ := M1.at_ r' _ HR.out
  have k5 : w1.frozen? ⟨g, r' * 3 + 1, none⟩ = false := by obtain ⟨cur, R⟩ := M1.row; exact R.fz _
  have HM1 : Hid _ := M1
  clear M1
  go_wp2_with fail
  go_end0
  refine ⟨rfl, r', g, cap, ?_, ?_, H1.out.2.1, H1.out.2.2.1, H1.out.2.2.2⟩
  · have e : holdL L ts r' = L.set r' (ts, c + 1) := by unfold holdL; rw [HR.out]; simp
    rw [e]
    obtain ⟨⟨mc, h1, h2⟩, ⟨cur, R⟩, bm, bg⟩ := HM1.out
    refine ⟨⟨mc, (Below.heap_setCell w1 ⟨g, r' * 3 + 1, none⟩ _ mb (fun h => HM1.out.ne h.symm)).trans h1, by simpa using h2⟩, ⟨cur.setIfInBounds (r' * 3 + 1) (.int .i64 (c + 1)), ?_⟩, bm, bg⟩
    have := R.setCell (r' * 3 + 1) (.int .i64 (c + 1))
    rw [penc_set L r' _ HR.out] at this
    simpa using this
  · have hb : Below B w w1 := H1.out.1.mono (Nat.le_of_lt (Nat.lt_of_le_of_lt HM.out.bm HM.out.lt))
    exact hb.setCell HM.out.bg _

/-- The points with a new one, not yet held. -/
def insL (L : List (Int × Int)) (ts c : Int) (r : Nat) : List (Int × Int) := L.take r ++ (ts, c) :: L.drop r
theorem insL_len (L : List (Int × Int)) (ts c : Int) (r : Nat) (hr : r ≤ L.length) : (insL L ts c r).length = L.length + 1 := by simp [insL]; omega
theorem insL_at (L : List (Int × Int)) (ts c : Int) (r : Nat) (hr : r ≤ L.length) : (insL L ts c r)[r]? = some (ts, c) := by
  rw [insL, List.getElem?_append_right (by rw [List.length_take]; omega), List.length_take]
  simp [Nat.min_eq_left hr]
theorem insL_set (L : List (Int × Int)) (ts c d : Int) (r : Nat) (hr : r ≤ L.length) : (insL L ts c r).set r (ts, d) = insL L ts d r := by
  rw [insL, List.set_append_right _ _ (by rw [List.length_take]; omega), List.length_take]
  simp [insL, Nat.min_eq_left hr]

/-- What the walk is told of the world behind Insert. -/
structure InsAt (w1 w2 : World) (B mb : Nat) (L : List (Int × Int)) (ts : Int) (r g' cap' : Nat) (cur' : Array Value) : Prop where
  bg : B ≤ g'
  row : Row w2 g' (L.length + 1) cap' (penc (insL L ts 0 r)) cur'
  mblk : w2.heap[mb]? = w1.heap[mb]?
  bel : Below B w1 w2
  ne : g' ≠ mb

theorem ins_at (B mb g cap : Nat) (L : List (Int × Int)) (ts : Int) (r : Nat) (w1 : World) (M : MV w1 B mb L g cap) (hr : r ≤ L.length) (hn : L.length ≤ 2000) :
    Calls Yba.prog 8 #[.slice (some ⟨g, 0, none⟩) L.length cap, .int .i64 r, .slice (some ⟨w1.heap.size, 0, none⟩) 1 1] (w1.alloc (.cells #[.int .i64 ts, .int .i64 0, .slice none 0 0] 60)) fun e w2 =>
      ∃ g' cap' cur', e = .returned (.slice (some ⟨g', 0, none⟩) (L.length + 1) cap') ∧ Hid (InsAt w1 w2 B mb L ts r g' cap' cur') := by
  obtain ⟨⟨mc, hm1, hm2⟩, ⟨cur, R⟩, bm, bg⟩ := M
  have hml : mb < w1.heap.size := (Array.getElem?_eq_some_iff.1 hm1).1
  have hBw : B ≤ w1.heap.size := by omega
  have hBw2 : B ≤ (w1.alloc (.cells #[.int .i64 ts, .int .i64 0, .slice none 0 0] 60)).heap.size := by simp; omega
  have e : penc L = penc (L.take r) ++ penc (L.drop r) := by rw [← penc_append, List.take_append_drop]
  have R' : Row (w1.alloc (.cells #[.int .i64 ts, .int .i64 0, .slice none 0 0] 60)) g L.length cap (penc (L.take r) ++ penc (L.drop r)) cur := by rw [← e]; exact R.other (Below.heap_alloc _ _ g R.lt)
  refine (insert_any B g L.length cap r w1.heap.size (penc (L.take r)) (penc (L.drop r)) [.int .i64 ts, .int .i64 0, .slice none 0 0] cur _ R' bg hBw2 hr (by omega) (by rw [penc_len, List.length_take]; congr 1; omega) rfl (by have := R.lt; omega) (heap_alloc_new w1 _) (penc_one _) (fun v hv => by simp at hv; rcases hv with rfl | rfl | rfl <;> rfl)).mono ?_
  rintro e2 w2 ⟨g', cap', cur', he, hB', R2, hgr⟩
  have hgm : mb ≠ g := by
    rintro rfl
    have := hm1.symm.trans R.blk
    simp at this
  have hblk : w2.heap[mb]? = w1.heap[mb]? := (hgr.block mb (by simp; omega) (fun e => by cases e; exact hgm rfl)).trans (Below.heap_alloc _ _ mb hml)
  refine ⟨g', cap', cur', he, hB', ?_, hblk, ?_, ?_⟩
  · have e3 : penc (insL L ts 0 r) = penc (L.take r) ++ [.int .i64 ts, .int .i64 0, .slice none 0 0] ++ penc (L.drop r) := by rw [insL, penc_append, penc_cons, List.append_assoc]
    rw [e3]
    exact R2
  · exact (((Below.refl _ _).alloc hBw _) : Below B w1 _).trans (grown_below' hgr bg hBw2)
  · rintro rfl
    have := (hblk.trans hm1).symm.trans R2.blk
    simp at this

theorem InsAt.fin {w w1 w2 : World} {B mb : Nat} {L : List (Int × Int)} {ts : Int} {r g g' cap cap' : Nat} {cur' : Array Value} (I : InsAt w1 w2 B mb L ts r g' cap' cur') (M : MV w1 B mb L g cap) (hb : Below B w w1) (hr : r ≤ L.length)
    (hno : ∀ p ∈ L, p.1 ≠ ts) (h1 : ∀ (i : Nat) (p : Int × Int), i < r → L[i]? = some p → p.1 < ts) (h2 : ∀ (i : Nat) (p : Int × Int), r ≤ i → L[i]? = some p → ts ≤ p.1) :
    HoldPost w B mb L ts ((w2.setCell ⟨mb, 11, none⟩ (.slice (some ⟨g', 0, none⟩) (L.length + 1) cap')).setCell ⟨g', r * 3 + 1, none⟩ (.int .i64 1)) := by
  obtain ⟨bg, row, mblk, bel, ne⟩ := I
  obtain ⟨⟨mc, hm1, hm2⟩, _, bm, _⟩ := M
  have e : holdL L ts r = insL L ts 1 r := by
    unfold holdL
    cases hp : L[r]? with
    | none => rfl
    | some p => simp only; rw [if_neg (hno p (List.mem_of_getElem? hp))]; rfl
  refine ⟨r, g', cap', ?_, (hb.trans ((bel.setCell bm _).setCell bg _)), hr, h1, h2⟩
  rw [e]
  refine ⟨⟨mc.setIfInBounds 11 (.slice (some ⟨g', 0, none⟩) (L.length + 1) cap'), ?_, ?_⟩, ⟨cur'.setIfInBounds (r * 3 + 1) (.int .i64 1), ?_⟩, bm, bg⟩
  · rw [Below.heap_setCell _ ⟨g', r * 3 + 1, none⟩ _ mb (fun h => ne h.symm), setCell_eq_setRow w2 mb 11 mc 56 (0, 0) _ (mblk.trans hm1)]
    exact setRow_heap w2 mb mc _ 56 _ (mblk.trans hm1)
  · have hl : 11 < mc.size := (Array.getElem?_eq_some_iff.1 hm2).1
    rw [insL_len L ts 1 r hr]
    simp [hl]
  · have R3 : Row (w2.setCell ⟨mb, 11, none⟩ (.slice (some ⟨g', 0, none⟩) (L.length + 1) cap')) g' (L.length + 1) cap' (penc (insL L ts 0 r)) cur' := row.other (Below.heap_setCell _ ⟨mb, 11, none⟩ _ g' ne)
    have R4 := R3.setCell (r * 3 + 1) (.int .i64 1)
    rw [penc_set _ r _ (insL_at L ts 0 r hr), insL_set L ts 0 1 r hr] at R4
    rw [insL_len L ts 1 r hr]
    exact R4

set_option maxRecDepth 100000 in
theorem hold_new (B mb g cap : Nat) (L : List (Int × Int)) (ts : Int) (w : World) (M : MV w B mb L g cap) (hA : Asc L) (hn : L.length ≤ 2000) (hno : ∀ p ∈ L, p.1 ≠ ts) :
    Calls Yba.prog 5 #[.pointer (some ⟨mb, 0, none⟩), .int .i64 ts] w fun e w' => e = .returned (.tuple #[]) ∧ HoldPost w B mb L ts w' := by
  have HM : Hid _ := M
  have HA : Hid _ := hA
  have HR : Hid _ := hno
  clear hA M hno
  go_enter Yba.func5, Yba.ntmps5
  go_wp2_with fail
  refine (gap_any B mb g cap L ts w HM.out HA.out hn).mono ?_
  rintro e w1 ⟨r, rfl, H1⟩
  have M1 := HM.out.below H1.out.1
  have k0 := M1.cell
  have hml := M1.lt
  have hmf := M1.fz
  have hrl : r ≤ L.length := H1.out.2.1
  have HM1 : Hid _ := M1
  clear M1
  by_cases hrn : r = L.length
  · have hne : ((r : Int) == (L.length : Int)) = true := by simp; omega
    have HRN : Hid _ := hrn
    clear hrn
    go_wp2_with fail
    refine (ins_at B mb g cap L ts r w1 HM1.out hrl hn).mono ?_
    rintro e w2 ⟨g', cap', cur', rfl, I⟩
    have hr1 : (r : Int) < ((L.length : Nat) : Int) + 1 := by omega
    have c0 : w2.cell? ⟨mb, 11, none⟩ = some (.slice (some ⟨g, 0, none⟩) L.length cap) := (World.cell?_of_block I.out.mblk).trans k0
    have f0 : w2.frozen? ⟨mb, 11, none⟩ = false := (World.frozen?_of_block I.out.mblk).trans hmf
    have c1 : w2.cell? ⟨g', r * 3 + 1, none⟩ = some (.int .i64 0) := I.out.row.cell _ _ (penc_at _ r _ (insL_at L ts 0 r hrl)).2.1
    have f1 : w2.frozen? ⟨g', r * 3 + 1, none⟩ = false := I.out.row.fz _
    have ne : g' ≠ mb := I.out.ne
    have ne' : mb ≠ g' := ne.symm
    go_wp2_with fail
    go_end0
    exact ⟨rfl, I.out.fin HM1.out (H1.out.1.mono (Nat.le_of_lt (Nat.lt_of_le_of_lt HM.out.bm HM.out.lt))) hrl HR.out H1.out.2.2.1 H1.out.2.2.2⟩
  · have hrl1 : (r : Int) < (L.length : Int) := by omega
    have hne : ((r : Int) == (L.length : Int)) = false := by simp; omega
    obtain ⟨p, hp⟩ : ∃ p, L[r]? = some p := ⟨_, List.getElem?_eq_getElem (by omega)⟩
    obtain ⟨k1, k2, k3, k4⟩ := HM1.out.at_ r p hp
    have hpn : (p.1 != ts) = true := by simpa using HR.out p (List.mem_of_getElem? hp)
    have HP : Hid _ := hp
    clear hp
    go_wp2_with fail
    refine (ins_at B mb g cap L ts r w1 HM1.out hrl hn).mono ?_
    rintro e w2 ⟨g', cap', cur', rfl, I⟩
    have hr1 : (r : Int) < ((L.length : Nat) : Int) + 1 := by omega
    have c0 : w2.cell? ⟨mb, 11, none⟩ = some (.slice (some ⟨g, 0, none⟩) L.length cap) := (World.cell?_of_block I.out.mblk).trans k0
    have f0 : w2.frozen? ⟨mb, 11, none⟩ = false := (World.frozen?_of_block I.out.mblk).trans hmf
    have c1 : w2.cell? ⟨g', r * 3 + 1, none⟩ = some (.int .i64 0) := I.out.row.cell _ _ (penc_at _ r _ (insL_at L ts 0 r hrl)).2.1
    have f1 : w2.frozen? ⟨g', r * 3 + 1, none⟩ = false := I.out.row.fz _
    have ne : g' ≠ mb := I.out.ne
    have ne' : mb ≠ g' := ne.symm
    go_wp2_with fail
    go_end0
    exact ⟨rfl, I.out.fin HM1.out (H1.out.1.mono (Nat.le_of_lt (Nat.lt_of_le_of_lt HM.out.bm HM.out.lt))) hrl HR.out H1.out.2.2.1 H1.out.2.2.2⟩
end Go.Proofs.Ybulkdnm.Pts
