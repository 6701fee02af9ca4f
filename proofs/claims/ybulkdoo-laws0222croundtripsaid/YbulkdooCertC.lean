/- (*parser).u16s. -/
import Derived.Test.YbulkdooCertB
import Derived.Deep.RegionWith
import Derived.Deep.DeepCutAuto
namespace Go.Proofs.Ybulkdoo.Cert
open Go.RowKit

/-- The bytes of a list of 16-bit numbers, the greater byte first. -/
def enc16 (S : List Int) : List Int := S.flatMap fun x => [x / 256, x % 256]
theorem enc16_len (S : List Int) : (enc16 S).length = 2 * S.length := by
  induction S with
  | nil => rfl
  | cons x S ih => simp [enc16] at ih ⊢; omega
theorem enc16_hi (S : List Int) (k : Nat) (hk : k < S.length) : (enc16 S).getD (2 * k) 0 = S.getD k 0 / 256 := by
  induction S generalizing k with
  | nil => simp at hk
  | cons x S ih =>
    cases k with
    | zero => simp [enc16]
    | succ k =>
      have := ih k (by simpa using hk)
      simp only [enc16] at this
      simp [enc16, Nat.mul_add, List.getD] at this ⊢
      exact this
theorem enc16_lo (S : List Int) (k : Nat) (hk : k < S.length) : (enc16 S).getD (2 * k + 1) 0 = S.getD k 0 % 256 := by
  induction S generalizing k with
  | nil => simp at hk
  | cons x S ih =>
    cases k with
    | zero => simp [enc16]
    | succ k =>
      have := ih k (by simpa using hk)
      simp only [enc16] at this
      simp [enc16, Nat.mul_add, List.getD] at this ⊢
      exact this

theorem info51 : (Yba.prog.info? 51).map (fun i => (i.zero, i.size, i.bytes)) = some (some (.int .u16 0), 1, 2) := by kernel_rfl

theorem PB.grown {w w' : World} {pb g o cap V : Nat} {zs : List Int} (h : PB w pb g o cap zs) (hb : w.grownBy w' (some V)) (h1 : pb ≠ V) (h2 : g ≠ V) : PB w' pb g o cap zs := by
  obtain ⟨c0, c1, f0, f1, le, capm, cells, ne, gl⟩ := h
  have hp : pb < w.heap.size := by
    rcases Nat.lt_or_ge pb w.heap.size with h' | h'
    · exact h'
    · simp [World.cell?, Array.getElem?_eq_none h'] at c0
  have e : w'.heap[pb]? = w.heap[pb]? := hb.block pb hp (fun e => by cases e; exact h1 rfl)
  exact ⟨(World.cell?_of_block e).trans c0, (World.cell?_of_block e).trans c1, (World.frozen?_of_block e).trans f0, (World.frozen?_of_block e).trans f1, le, capm, fun j hj => (grown_cell hb gl h2).trans (cells j hj), ne, Nat.lt_of_lt_of_le gl hb.size⟩

/-- The row under the loop: m cells at V, the first k already laid. -/
structure Row16 (w : World) (V m k : Nat) (S : List Int) : Prop where
  lt : V < w.heap.size
  some_ : ∀ j, j < m → ∃ v, w.cell? ⟨V, j, none⟩ = some v
  fz : ∀ j, w.frozen? ⟨V, j, none⟩ = false
  done : ∀ j, j < k → w.cell? ⟨V, j, none⟩ = some (.int .u16 (S.getD j 0))

theorem PB.plt {w : World} {pb g o cap : Nat} {zs : List Int} (h : PB w pb g o cap zs) : pb < w.heap.size := by
  have c0 := h.c0
  rcases Nat.lt_or_ge pb w.heap.size with h' | h'
  · exact h'
  · simp [World.cell?, Array.getElem?_eq_none h'] at c0

theorem row_made {w : World} {b V m : Nat} {S : List Int} {ys : List Value} (h : w.ownsRow b 51 1 (.slice (some ⟨V, 0, none⟩) m m) m ys) : Row16 w V m 0 S := by
  obtain ⟨_, h | ⟨g, cap, cur, e, hb, hcur, _, _, hsz, _⟩⟩ := h
  · simp at h
  · simp only [Value.slice.injEq, Option.some.injEq, Addr.mk.injEq] at e
    obtain ⟨⟨rfl, _⟩, _, rfl⟩ := e
    refine ⟨(Array.getElem?_eq_some_iff.1 hcur).1, fun j hj => ?_, fun j => by simp [World.frozen?, hcur], fun j hj => absurd hj (Nat.not_lt_zero _)⟩
    refine ⟨cur[j]'(by omega), ?_⟩
    simp [World.cell?, hcur]

theorem below_of_none {w w' : World} (h : w.grownBy w' none) : Below w.heap.size w w' :=
  ⟨h.os, h.tape, h.output, h.size, fun j hj => h.block j hj (by simp)⟩

theorem row_step {w2 wr w3 : World} {V m k : Nat} {S : List Int} (hlt : k < S.length) (hm : k < m) (R : Row16 wr V m k S) (hg : w2.grownBy wr (some V)) (hb : Below wr.drew.heap.size wr.drew w3) :
    w2.grownBy (w3.setCell ⟨V, k, none⟩ (.int .u16 S[k])) (some V) ∧ Row16 (w3.setCell ⟨V, k, none⟩ (.int .u16 S[k])) V m (k + 1) S := by
  obtain ⟨lt, sm, fz, dn⟩ := R
  have c3 : ∀ j, w3.cell? ⟨V, j, none⟩ = wr.cell? ⟨V, j, none⟩ := fun j => hb.cell (p := ⟨V, j, none⟩) lt
  have f3 : ∀ j, w3.frozen? ⟨V, j, none⟩ = wr.frozen? ⟨V, j, none⟩ := fun j => hb.frozen (p := ⟨V, j, none⟩) lt
  have g3 : wr.grownBy w3 (some V) := ⟨hb.os, hb.tape, hb.output, hb.size, fun j hj _ => hb.block j hj⟩
  refine ⟨grown_trans (grown_trans hg g3) (grown_set w3 V k _), by simpa using Nat.lt_of_lt_of_le lt hb.size, fun j hj => ?_, fun j => by simpa using (f3 j).trans (fz j), fun j hj => ?_⟩
  · by_cases e : j = k
    · subst e
      obtain ⟨v, hv⟩ := sm j hj
      exact ⟨_, World.cell?_setCell_same w3 ⟨V, j, none⟩ _ ((c3 j).trans hv)⟩
    · obtain ⟨v, hv⟩ := sm j hj
      exact ⟨v, (World.cell?_setCell_other w3 ⟨V, k, none⟩ ⟨V, j, none⟩ _ (fun h => e (by cases h; rfl))).trans ((c3 j).trans hv)⟩
  · by_cases e : j = k
    · subst e
      obtain ⟨v, hv⟩ : ∃ v, wr.cell? ⟨V, j, none⟩ = some v := sm j (by omega)
      rw [World.cell?_setCell_same w3 ⟨V, j, none⟩ _ ((c3 j).trans hv)]
      simp [List.getD, hlt]
    · rw [World.cell?_setCell_other w3 ⟨V, k, none⟩ ⟨V, j, none⟩ _ (fun h => e (by cases h; rfl)), c3 j]
      exact dn j (by omega)

set_option maxRecDepth 100000 in
theorem u16s_pb (pb g o cap : Nat) (hi lo : Int) (S ys : List Int) (b0 : 0 ≤ hi) (b1 : hi ≤ 255) (b2 : 0 ≤ lo) (b3 : lo ≤ 255) (hx : hi * 256 + lo = 2 * S.length) (hS : ∀ x ∈ S, 0 ≤ x ∧ x ≤ 65535)
    (w : World) (h : PB w pb g o cap (hi :: lo :: (enc16 S ++ ys))) :
    Calls Yba.prog 19 #[.pointer (some ⟨pb, 0, none⟩)] w fun e w' => ∃ V, e = .returned (.slice (some ⟨V, 0, none⟩) S.length S.length) ∧ w.heap.size ≤ V ∧ (∃ o' cap', PB w' pb g o' cap' ys) ∧ w.grownBy w' (some pb) ∧
      ∀ j, j < S.length → w'.cell? ⟨V, j, none⟩ = some (.int .u16 (S.getD j 0)) := by
  have hlen := enc16_len S
  have HL : Hid _ := hlen
  clear hlen
  have hS9 : (S.length : Int) ≤ 32767 := by omega
  obtain ⟨N, hN⟩ : ∃ N, N = (enc16 S).length := ⟨_, rfl⟩
  have hm2 : (N : Int) % 2 = 0 := by rw [hN, HL.out]; omega
  have hd2 : (N : Int) / 2 = S.length := by rw [hN, HL.out]; omega
  have hN9 : N = 2 * S.length := by rw [hN, HL.out]
  have HN : Hid _ := hN
  have HN9 : Hid _ := hN9
  clear hN hN9
  obtain ⟨i0, hi0, hz0, hz1, hz2⟩ := info_parts info51
  have HX : Hid _ := hx
  clear hx
  go_enter Yba.func19, Yba.ntmps19
  go_wp2_with fail
  refine (vec16_pb pb g o cap hi lo (enc16 S) ys b0 b1 b2 b3 (by rw [HL.out, HX.out]; simp) w h).mono ?_
  rintro e w1 ⟨o1, rfl, hp, hg, hc⟩
  have R : Hid _ := And.intro hp (And.intro hg hc)
  clear hp hg hc
  rw [← HN.out]
  go_wp2_with (at_make; refine wpList_make_full _ rfl (.tmp 17) (.tmp 17) 37 rfl w1.heap.size 51 i0 (.int .u16 0) 1 Yba.underlying37 hi0 hz0 hz1 .i64 .i64 _ _ S.length rfl rfl rfl rfl (by rw [hz2]; omega) (by unfold maxLen; omega) (Nat.le_refl _) ?_; intro w2 hown hgr)
  have hrow : Row16 w2 w1.heap.size S.length 0 S := row_made hown
  have hpb : pb < w1.heap.size ∧ g < w1.heap.size := by
    obtain ⟨⟨o', cap', hp⟩, _, _⟩ := R.out
    exact ⟨hp.plt, hp.gl⟩
  obtain ⟨hpl, hgl⟩ := hpb
  have R2 : Hid _ := And.intro R.out (And.intro hgr hrow)
  clear hgr hrow hown R
  go_loopw [21] (fun i wr => ∃ k : Nat, k ≤ S.length ∧ i = .int .i64 k ∧ Hid (w2.grownBy wr (some w1.heap.size) ∧ Row16 wr w1.heap.size S.length k S)) (fun i _ => S.length - (intOf i).toNat)
  case atStart => exact ⟨0, Nat.zero_le _, rfl, ⟨World.grownBy.refl _ _, R2.out.2.2⟩⟩
  case round =>
    obtain ⟨k, hk, rfl, hR⟩ := hrel
    by_cases hlt : k < S.length
    · have hgr := hR.out.1
      obtain ⟨v, hv⟩ := hR.out.2.some_ k hlt
      have hf := hR.out.2.fz k
      have hlt' : (k : Int) < (S.length : Int) := by omega
      have hVl : w1.heap.size < wr.heap.size := hR.out.2.lt
      have hgl' : g < wr.heap.size := by omega
      have hcc : ∀ j, j < 2 * S.length → wr.cell? ⟨g, o1 + j, none⟩ = some (.int .u8 ((enc16 S).getD j 0)) := fun j hj => by
        have e1 := R2.out.1.2.2 j (by rw [HL.out]; exact hj)
        have e2 : w2.cell? ⟨g, o1 + j, none⟩ = w1.cell? ⟨g, o1 + j, none⟩ := World.cell?_of_block (R2.out.2.1.block g hgl (by simp))
        rw [grown_cell hgr (Nat.lt_of_lt_of_le hgl R2.out.2.1.size) (by omega), e2, e1]
      have hsk := hS (S.getD k 0) (by simp [List.getD, hlt])
      have hcu : ∀ (W : World), W.cell? ⟨g, o1 + 2 * k, none⟩ = wr.cell? ⟨g, o1 + 2 * k, none⟩ → W.cell? ⟨g, o1 + 2 * k + 1, none⟩ = wr.cell? ⟨g, o1 + 2 * k + 1, none⟩ → g < W.heap.size →
          Calls Yba.prog 26 #[.agg #[], .slice (some ⟨g, o1 + 2 * k, none⟩) (N - 2 * k) (N - 2 * k)] W fun e w' => e = .returned (.int .u16 (S.getD k 0)) ∧ Below W.heap.size W w' := by
        intro W e1 e2 e3
        have h1 := hcc (2 * k) (by omega)
        have h2 := hcc (2 * k + 1) (by omega)
        rw [enc16_hi S k hlt] at h1
        rw [enc16_lo S k hlt] at h2
        have := uint16 g (o1 + 2 * k) (N - 2 * k) (N - 2 * k) (S.getD k 0 / 256) (S.getD k 0 % 256) W (by rw [HN9.out]; omega) (e1.trans h1) (e2.trans h2) (by omega) (by omega) (by omega) (by omega) e3
        refine this.mono fun e w' ⟨h, hb⟩ => ⟨h.trans (ret_int (by omega)), hb⟩
      have HU : Hid _ := hcu
      have hk2 : (2 * (k : Int)) ≤ (N : Int) := by rw [HN9.out]; omega
      have hk3 : ¬ N = 2 * k := by rw [HN9.out]; omega
      have hk0 : 0 ≤ 2 * (k : Int) := by omega
      have hk4 : (2 * (k : Int)).toNat = 2 * k := by omega
      have hwk : IntKind.i64.wrap (2 * (k : Int)) = 2 * (k : Int) := by simp only [IntKind.wrap_i64]; omega
      clear hgr hcc hsk hcu
      go_wp2_with fail
      go_region_with (go_at_call 26; refine (HU.out wr.drew rfl rfl hgl').mono ?_; rintro e w3 ⟨rfl, hb3⟩; have hv3 := (hb3.cell (p := ⟨w1.heap.size, k, none⟩) hVl).trans (show wr.drew.cell? ⟨w1.heap.size, k, none⟩ = some v from hv); have hf3 := (hb3.frozen (p := ⟨w1.heap.size, k, none⟩) hVl).trans (show wr.drew.frozen? ⟨w1.heap.size, k, none⟩ = false from hf); have HB3 : Hid _ := hb3; clear hb3)
      all_goals
        have R3 := row_step hlt hlt hR.out.2 hR.out.1 HB3.out
        have R3' : Hid _ := R3
        clear R3 hv3 hf3 hv hf
        go_wp2_with fail
        go_roundw
        case rel => exact ⟨k + 1, by omega, by go_num, R3'.out⟩
        case measure => simp [intOf]; omega
    · have hkk : k = S.length := by omega
      have HK : Hid _ := hkk
      clear hkk
      go_wp2_with fail
      go_ret
      obtain ⟨hg, hrow⟩ := hR.out
      obtain ⟨⟨⟨o', cap', hp⟩, hg1, _⟩, hg2, _⟩ := R2.out
      have hp2 : PB w2 pb g o' cap' ys := hp.below (below_of_none hg2)
      refine ⟨w1.heap.size, rfl, hg1.size, ⟨o', cap', hp2.grown hg (by omega) (by omega)⟩, ?_, fun j hj => hrow.done j (by rw [HK.out]; exact hj)⟩
      exact grown_trans hg1 (grown_below pb ((below_of_none hg2).trans (below_grown hg (Nat.le_refl _) (hg2.size))))
end Go.Proofs.Ybulkdoo.Cert
