/- The map that the law lays. -/
import Derived.Test.YbulkdlwClaimG
namespace Go.Proofs.Ybulkdlw.Claim
open Go.RowKit

def putM (w : World) (m : Nat) (es : Array MapEntry) (ck : Nat) : World := { w with heap := w.heap.setIfInBounds m (.map es ck) }

theorem own_one (w : World) (B : Nat) (x : Int) (hB : B ≤ w.heap.size) : (w.alloc (.cells #[.int .u64 x] 29)).ownsRow B 29 1 (.slice (some ⟨w.heap.size, 0, none⟩) 1 1) 1 [.int .u64 x] :=
  ⟨rfl, .inr ⟨w.heap.size, 1, #[.int .u64 x], rfl, hB, heap_alloc_new w _, Nat.le_refl _, by unfold maxLen; omega, rfl, rfl⟩⟩

structure R0 (w0 wx : World) (rs tb tb2 rb r2b g len : Nat) (s : Int) (I : List Int) (mv : Value) (e2 e1 : Option Value) : Prop where
  base : Base w0 wx tb tb2 rb r2b s
  rsb : wx.heap[rs]? = some (.cells #[.int .i32 0, .int .u32 0, mv] 106 (0, 0))
  mf : MF wx tb tb2 s e2 e1 mv
  brs : w0.heap.size ≤ rs
  bm : ∀ m, mv = .map (some m) → w0.heap.size ≤ m
  own : wx.ownsRow w0.heap.size 29 1 (.slice (some ⟨g, 0, none⟩) len len) len (us I)

section
variable {w0 wx wy : World} {rs tb tb2 rb r2b g len : Nat} {s : Int} {I : List Int} {mv : Value} {e2 e1 : Option Value}

theorem R0.lt (h : R0 w0 wx rs tb tb2 rb r2b g len s I mv e2 e1) : w0.heap.size ≤ wx.heap.size := h.base.bel.size
theorem R0.below (h : R0 w0 wx rs tb tb2 rb r2b g len s I mv e2 e1) (hb : Below wx.heap.size wx wy) : R0 w0 wy rs tb tb2 rb r2b g len s I mv e2 e1 := by
  have gg := G.of_below hb h.lt
  exact ⟨h.base.kept gg, (hb.block _ (Array.getElem?_eq_some_iff.1 h.rsb).1).trans h.rsb, h.mf.keep fun m es ck hm => hb.block _ (Array.getElem?_eq_some_iff.1 hm).1, h.brs, h.bm, own_kept rfl h.own gg⟩
theorem R0.c_by (h : R0 w0 wx rs tb tb2 rb r2b g len s I mv e2 e1) : wx.cell? ⟨rs, 2, none⟩ = some mv := by simp [World.cell?, h.rsb]
theorem R0.f_by (h : R0 w0 wx rs tb tb2 rb r2b g len s I mv e2 e1) : wx.frozen? ⟨rs, 2, none⟩ = false := by simp [World.frozen?, h.rsb]

theorem r0_made (h : Base w0 wx tb tb2 rb r2b s) (ho : wx.ownsRow w0.heap.size 29 1 (.slice (some ⟨g, 0, none⟩) len len) len (us I)) :
    R0 w0 (wx.alloc (.cells #[.int .i32 0, .int .u32 0, .map none] 106)) wx.heap.size tb tb2 rb r2b g len s I (.map none) none none := by
  have gg := alloc_g wx (.cells #[.int .i32 0, .int .u32 0, .map none] 106) h.bel.size
  exact ⟨h.kept gg, heap_alloc_new wx _, .nil rfl rfl, h.bel.size, fun m e => (by cases e), own_kept rfl ho gg⟩

theorem r0_map (h : Base w0 wx tb tb2 rb r2b s) (ho : wx.ownsRow w0.heap.size 29 1 (.slice (some ⟨g, 0, none⟩) len len) len (us I)) :
    R0 w0 ((wx.alloc (.cells #[.int .i32 0, .int .u32 0, .map (some (wx.heap.size + 1))] 106)).alloc (.map #[] 0)) wx.heap.size tb tb2 rb r2b g len s I (.map (some (wx.heap.size + 1))) none none := by
  have b2 : Below wx.heap.size wx ((wx.alloc (.cells #[.int .i32 0, .int .u32 0, .map (some (wx.heap.size + 1))] 106)).alloc (.map #[] 0)) := (alloc_b wx _).alloc (by simp) _
  have gg := G.of_below b2 h.bel.size
  refine ⟨h.kept gg, ?_, .made _ #[] 0 ?_ rfl, h.bel.size, fun m e => (by cases e; have := h.bel.size; omega), own_kept rfl ho gg⟩
  · rw [Below.heap_alloc _ _ _ (by simp)]; exact heap_alloc_new wx _
  · have := heap_alloc_new (wx.alloc (.cells #[.int .i32 0, .int .u32 0, .map (some (wx.heap.size + 1))] 106)) (.map #[] 0)
    simpa using this

/-- A map is made and laid into the field. -/
theorem R0.mkMap (h : R0 w0 wx rs tb tb2 rb r2b g len s I (.map none) e2 e1) :
    R0 w0 ((wx.alloc (.map #[] 0)).setCell ⟨rs, 2, none⟩ (.map (some wx.heap.size))) rs tb tb2 rb r2b g len s I (.map (some wx.heap.size)) none none := by
  have h1 := h.below (alloc_b wx (.map #[] 0))
  have gg : G w0.heap.size (wx.alloc (.map #[] 0)) ((wx.alloc (.map #[] 0)).setCell ⟨rs, 2, none⟩ (.map (some wx.heap.size))) := G.setCell h1.rsb rfl h.brs 2 _
  have hne : wx.heap.size ≠ rs := Nat.ne_of_gt (Array.getElem?_eq_some_iff.1 h.rsb).1
  refine ⟨h1.base.kept gg, set_heap h1.rsb 2 _, .made wx.heap.size #[] 0 ((Below.heap_setCell _ _ _ _ hne).trans (heap_alloc_new wx _)) rfl, h.brs, fun m e => (by cases e; exact h.lt), own_kept rfl h1.own gg⟩

theorem R0.upd (h : R0 w0 wx rs tb tb2 rb r2b g len s I mv e2 e1) {m : Nat} {es es' : Array MapEntry} {ck ck' : Nat} (hmv : mv = .map (some m)) (hm : wx.heap[m]? = some (.map es ck)) {f2 f1 : Option Value} (he : Ents tb tb2 s f2 f1 es'.toList) :
    R0 w0 { wx with heap := wx.heap.setIfInBounds m (.map es' ck') } rs tb tb2 rb r2b g len s I mv f2 f1 := by
  have gg := G.setMap (B := w0.heap.size) hm (h.bm m hmv) (.map es' ck')
  have hne : m ≠ rs := by
    rintro rfl
    have := h.rsb.symm.trans hm
    simp at this
  have hl : m < wx.heap.size := (Array.getElem?_eq_some_iff.1 hm).1
  refine ⟨h.base.kept gg, ?_, ?_, h.brs, h.bm, own_kept rfl h.own gg⟩
  · have := h.rsb
    simpa [hne] using this
  · subst hmv
    exact .made m es' ck' (by simp [hl]) he

theorem R0.put1 {m : Nat} (h : R0 w0 wx rs tb tb2 rb r2b g len s I (.map (some m)) e2 e1) (x : Value) :
    ∃ es' ck', (Instr.mapUpdate 104 (.map (some m)) (.agg #[.pointer (some ⟨tb, 0, none⟩), .int .u32 s]) x).run Yba.prog wx = .ok () (putM wx m es' ck') ∧ Hid (R0 w0 (putM wx m es' ck') rs tb tb2 rb r2b g len s I (.map (some m)) e2 (some x) ∧ G w0.heap.size wx (putM wx m es' ck')) := by
  have hmf := h.mf
  cases hmf with
  | made _ es ck hb he =>
    obtain ⟨es', ck', hr, he'⟩ := update1 h.base.two hb he x
    exact ⟨es', ck', hr, h.upd rfl hb he', G.setMap hb (h.bm m rfl) _⟩

theorem R0.put2 {m : Nat} (h : R0 w0 wx rs tb tb2 rb r2b g len s I (.map (some m)) none none) (x : Value) :
    ∃ es' ck', (Instr.mapUpdate 104 (.map (some m)) (.agg #[.pointer (some ⟨tb2, 0, none⟩), .int .u32 s]) x).run Yba.prog wx = .ok () (putM wx m es' ck') ∧ Hid (R0 w0 (putM wx m es' ck') rs tb tb2 rb r2b g len s I (.map (some m)) (some x) none ∧ G w0.heap.size wx (putM wx m es' ck')) := by
  have hmf := h.mf
  cases hmf with
  | made _ es ck hb he =>
    have e0 : es = #[] := by
      have : es.toList = [] := by
        unfold Ents at he
        simpa using he
      simpa using this
    subst e0
    exact ⟨_, _, update2 h.base.two hb x, h.upd rfl hb rfl, G.setMap hb (h.bm m rfl) _⟩
end
end Go.Proofs.Ybulkdlw.Claim
