/- The claim as the law calls it. -/
import Derived.Test.YbulkdlwClaimH
namespace Go.Proofs.Ybulkdlw.Claim
open Go.RowKit

theorem s_made {w0 w1 : World} {rs tb tb2 rb r2b g len ref : Nat} {s word tid : Int} {I : List Int} {mv : Value} {e2 e1 : Option Value} (h : R0 w0 w1 rs tb tb2 rb r2b g len s I mv e2 e1) (hr : w1.heap[ref]? = some (.cells #[.int .u64 word] 109 (0, 0))) (hB : w0.heap.size ≤ ref)
    (tc : Array Value) (h0 : tc[0]? = some (.int .u64 tid)) (h52 : tc[52]? = some (.slice none 0 0)) :
    S (w1.alloc (.cells tc 137)) w0.heap.size rs ref w1.heap.size tb tb2 s 0 mv word tid (.slice none 0 0) e2 e1 := by
  have h1 := h.below (alloc_b w1 (.cells tc 137))
  exact ⟨h1.rsb, (Below.heap_alloc _ _ _ (Array.getElem?_eq_some_iff.1 hr).1).trans hr, ⟨tc, heap_alloc_new w1 _, h0, h52⟩, h1.base.two, h1.mf, h1.brs, hB, h.lt, h1.bm⟩

theorem after_store {w0 wx w1 : World} {rs tb tb2 rb r2b g len : Nat} {s word : Int} {I : List Int} {mv : Value} {e2 e1 : Option Value} (h : R0 w0 wx rs tb tb2 rb r2b g len s I mv e2 e1) (hw : w1 = (wx.alloc (.cells #[.int .u64 0] 109)).setCell ⟨wx.heap.size, 0, none⟩ (.int .u64 word)) :
    R0 w0 w1 rs tb tb2 rb r2b g len s I mv e2 e1 ∧ w1.heap[wx.heap.size]? = some (.cells #[.int .u64 word] 109 (0, 0)) ∧ w0.heap.size ≤ wx.heap.size ∧ Below wx.heap.size wx w1 := by
  subst hw
  have hb : Below wx.heap.size wx ((wx.alloc (.cells #[.int .u64 0] 109)).setCell ⟨wx.heap.size, 0, none⟩ (.int .u64 word)) := (alloc_b wx _).setCell (Nat.le_refl _) _
  exact ⟨h.below hb, set_heap (heap_alloc_new wx _) 0 _, h.lt, hb⟩

/-- The state behind the claim. -/
structure Fin (w0 w' : World) (rs ref t tb tb2 rb r2b : Nat) (s tid : Int) (a8 : Bool) (o : Value) (O : List Int) (shd : Bool) (W : Int) (pres : Bool) (E : List Int) : Prop where
  base : Base w0 w' tb tb2 rb r2b s
  out : ∃ e2, Out w' w0.heap.size rs ref t tb tb2 s tid e2 o O shd W pres E ∧ (a8 = true → ∃ v, e2 = some v ∧ w'.ownsRow w0.heap.size 29 1 v 1 [.int .u64 7]) ∧ (a8 = false → e2 = none)

theorem claim_law {w0 w1 : World} {rs tb tb2 rb r2b g len ref : Nat} {s word tid met sel : Int} {I : List Int} {mv : Value} {e2 e1 : Option Value} {a4 a8 : Bool} (h : R0 w0 w1 rs tb tb2 rb r2b g len s I mv e2 e1) (hr : w1.heap[ref]? = some (.cells #[.int .u64 word] 109 (0, 0))) (hB : w0.heap.size ≤ ref)
    (hl : I.length = len) (hlen : len ≤ 1024) (hst : (a4 = true → word ≠ met) ∧ (a4 = false → met = word))
    (h2 : (a8 = true → ∃ v, e2 = some v ∧ w1.ownsRow w0.heap.size 29 1 v 1 [.int .u64 7]) ∧ (a8 = false → e2 = none)) (h1 : (0 < len → e1 = some (.slice (some ⟨g, 0, none⟩) len len)) ∧ (len = 0 → e1 = none))
    (tc : Array Value) (h0 : tc[0]? = some (.int .u64 tid)) (h52 : tc[52]? = some (.slice none 0 0)) :
    Calls Yba.prog 5 #[.pointer (some ⟨rs, 0, none⟩), .agg #[.pointer (some ⟨tb, 0, none⟩), .int .u32 s], .pointer (some ⟨ref, 0, none⟩), .int .u64 met, .pointer (some ⟨w1.heap.size, 0, none⟩), .agg #[.int .u8 sel, .int .u8 0]] (w1.alloc (.cells tc 137)) fun e w' =>
      ∃ o, e = .returned (.tuple #[o, .bool (tkB a4 sel word tid I), .bool a4]) ∧ Hid (Fin w0 w' rs ref w1.heap.size tb tb2 rb r2b s tid a8 o (outO a4 sel tid I) (shdB a4 sel word tid I) (outW a4 sel word tid I) (outP a4 sel word tid I) (outE a4 sel word tid I)) := by
  subst hl
  have hS := s_made h hr hB tc h0 h52
  have gg := alloc_g w1 (.cells tc 137) h.lt
  have ho := own_kept rfl h.own gg
  obtain ⟨sa, hv, hI, p1⟩ : ∃ sa, vOf e1 = .slice sa I.length I.length ∧ (w1.alloc (.cells tc 137)).ownsRow w0.heap.size 29 1 (.slice sa I.length I.length) I.length (us I) ∧ (0 < I.length → e1 = some (.slice sa I.length I.length)) := by
    by_cases hp : 0 < I.length
    · exact ⟨_, by rw [h1.1 hp]; rfl, ho, h1.1⟩
    · have hz : I = [] := List.eq_nil_of_length_eq_zero (by omega)
      subst hz
      exact ⟨none, by rw [h1.2 rfl]; rfl, World.ownsRow_nil _ _ _ _, fun h => absurd h hp⟩
  refine (claim_all w0.heap.size rs ref w1.heap.size tb tb2 s met sel 0 word tid mv e2 e1 sa I a4 _ hS hst.1 hst.2 hv hI hlen p1 h1.2).mono ?_
  rintro e w' ⟨o, rfl, H⟩
  obtain ⟨g1, hout⟩ := H.out
  refine ⟨o, rfl, (h.base.kept gg).kept g1, e2, hout, fun h => ?_, h2.2⟩
  obtain ⟨v, hv1, hv2⟩ := h2.1 h
  exact ⟨v, hv1, own_kept rfl (own_kept rfl hv2 gg) g1⟩
end Go.Proofs.Ybulkdlw.Claim
