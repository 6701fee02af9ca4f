/- The state about the rows' shares: the blocks, and what each store does to them. -/
import Derived.Test.YbulkdlwClaimB
import Derived.Laws.CopyOwn
namespace Go.Proofs.Ybulkdlw.Claim
open Go.RowKit

/-- What is kept for good: cells of other types than rowShares, holdRef and txn. -/
def Fx : Obj → Bool
  | .cells _ t _ => t != 106 && t != 109 && t != 137
  | _ => false

structure G (B : Nat) (w w' : World) : Prop where
  below : Below B w w'
  kf : ∀ (b : Nat) (x : Obj), w.heap[b]? = some x → Fx x = true → w'.heap[b]? = some x

theorem G.refl (B : Nat) (w : World) : G B w w := ⟨Below.refl _ _, fun _ _ h _ => h⟩
theorem G.trans {B : Nat} {a b c : World} (h : G B a b) (k : G B b c) : G B a c := ⟨h.below.trans k.below, fun i x hx hf => k.kf i x (h.kf i x hx hf) hf⟩
theorem G.of_below {B : Nat} {w w' : World} (h : Below w.heap.size w w') (hB : B ≤ w.heap.size) : G B w w' :=
  ⟨h.mono hB, fun b _ hx _ => (h.block b (Array.getElem?_eq_some_iff.1 hx).1).trans hx⟩
theorem G.setCell {B : Nat} {w : World} {g : Nat} {c : Array Value} {t : TypeId} (hg : w.heap[g]? = some (.cells c t (0, 0))) (ht : Fx (.cells c t (0, 0)) = false) (hB : B ≤ g) (j : Nat) (v : Value) : G B w (w.setCell ⟨g, j, none⟩ v) := by
  refine ⟨(Below.refl _ _).setCell hB v, fun b x hx hf => ?_⟩
  by_cases e : b = g
  · subst e
    rw [hg] at hx
    cases hx
    rw [ht] at hf
    cases hf
  · rw [Below.heap_setCell _ _ _ _ e]; exact hx
theorem G.setMap {B : Nat} {w : World} {m : Nat} {es : Array MapEntry} {ck : Nat} (hm : w.heap[m]? = some (.map es ck)) (hB : B ≤ m) (o : Obj) : G B w { w with heap := w.heap.setIfInBounds m o } := by
  refine ⟨⟨rfl, rfl, rfl, by simp, fun k hk => ?_⟩, fun b x hx hf => ?_⟩
  · simp [show m ≠ k by omega]
  · by_cases e : m = b
    · subst e
      rw [hm] at hx
      cases hx
      cases hf
    · simp [e, hx]

theorem set_heap {w : World} {g : Nat} {c : Array Value} {t : TypeId} (hg : w.heap[g]? = some (.cells c t (0, 0))) (j : Nat) (v : Value) : (w.setCell ⟨g, j, none⟩ v).heap[g]? = some (.cells (c.setIfInBounds j v) t (0, 0)) := by
  rw [setCell_eq_setRow w g j c t (0, 0) v hg]
  exact setRow_heap w g c _ t _ hg

structure S (w : World) (B rs ref t tb tb2 : Nat) (s lk : Int) (mv : Value) (word tid : Int) (tsh : Value) (e2 e1 : Option Value) : Prop where
  rsb : w.heap[rs]? = some (.cells #[.int .i32 lk, .int .u32 0, mv] 106 (0, 0))
  refb : w.heap[ref]? = some (.cells #[.int .u64 word] 109 (0, 0))
  tbk : ∃ tc, w.heap[t]? = some (.cells tc 137 (0, 0)) ∧ tc[0]? = some (.int .u64 tid) ∧ tc[52]? = some tsh
  two : Two w tb tb2
  mf : MF w tb tb2 s e2 e1 mv
  brs : B ≤ rs
  bref : B ≤ ref
  bt : B ≤ t
  bm : ∀ m, mv = .map (some m) → B ≤ m

section
variable {w w' : World} {B rs ref t tb tb2 : Nat} {s lk : Int} {mv : Value} {word tid : Int} {tsh : Value} {e2 e1 : Option Value}

theorem MF.keep (h : MF w tb tb2 s e2 e1 mv) (hk : ∀ (m : Nat) (es : Array MapEntry) (ck : Nat), w.heap[m]? = some (.map es ck) → w'.heap[m]? = w.heap[m]?) : MF w' tb tb2 s e2 e1 mv := by
  cases h with
  | nil a b => exact .nil a b
  | made m es ck hb he => exact .made m es ck ((hk m es ck hb).trans hb) he
theorem Two.keep (h : Two w tb tb2) (hk : ∀ (b : Nat) (c : Array Value), w.heap[b]? = some (.cells c 99 (0, 0)) → w'.heap[b]? = w.heap[b]?) : Two w' tb tb2 := by
  obtain ⟨hn, ⟨c, ha⟩, ⟨d, hb⟩⟩ := h
  exact ⟨hn, ⟨c, (hk _ _ ha).trans ha⟩, ⟨d, (hk _ _ hb).trans hb⟩⟩
theorem S.below (h : S w B rs ref t tb tb2 s lk mv word tid tsh e2 e1) (hb : Below w.heap.size w w') : S w' B rs ref t tb tb2 s lk mv word tid tsh e2 e1 := by
  have k : ∀ (b : Nat) (x : Obj), w.heap[b]? = some x → w'.heap[b]? = w.heap[b]? := fun b x hx => hb.block b (Array.getElem?_eq_some_iff.1 hx).1
  obtain ⟨h1, h2, ⟨tc, h3, h3a, h3b⟩, h4, h5, b1, b2, b3, b4⟩ := h
  exact ⟨(k _ _ h1).trans h1, (k _ _ h2).trans h2, ⟨tc, (k _ _ h3).trans h3, h3a, h3b⟩, h4.keep fun b c hx => k _ _ hx, h5.keep fun m es ck hx => k _ _ hx, b1, b2, b3, b4⟩

theorem S.rs_ref (h : S w B rs ref t tb tb2 s lk mv word tid tsh e2 e1) : rs ≠ ref := by
  rintro rfl
  have := h.rsb.symm.trans h.refb
  simp at this
theorem S.rs_t (h : S w B rs ref t tb tb2 s lk mv word tid tsh e2 e1) : rs ≠ t := by
  rintro rfl
  obtain ⟨tc, h3, _⟩ := h.tbk
  have := h.rsb.symm.trans h3
  simp at this
theorem S.ref_t (h : S w B rs ref t tb tb2 s lk mv word tid tsh e2 e1) : ref ≠ t := by
  rintro rfl
  obtain ⟨tc, h3, _⟩ := h.tbk
  have := h.refb.symm.trans h3
  simp at this

/-- A store into one of the three blocks leaves the tables and the map. -/
theorem S.rest (h : S w B rs ref t tb tb2 s lk mv word tid tsh e2 e1) {g j : Nat} {c : Array Value} {ty : TypeId} (hg : w.heap[g]? = some (.cells c ty (0, 0))) (hty : ty ≠ 99) (v : Value) : Two (w.setCell ⟨g, j, none⟩ v) tb tb2 ∧ MF (w.setCell ⟨g, j, none⟩ v) tb tb2 s e2 e1 mv := by
  refine ⟨h.two.keep fun b c' hb => Below.heap_setCell _ _ _ _ ?_, h.mf.keep fun m es ck hb => Below.heap_setCell _ _ _ _ ?_⟩
  · rintro rfl
    rw [hg] at hb
    cases hb
    exact hty rfl
  · rintro rfl
    rw [hg] at hb
    cases hb

theorem S.setLk (h : S w B rs ref t tb tb2 s lk mv word tid tsh e2 e1) (k : Int) : S (w.setCell ⟨rs, 0, none⟩ (.int .i32 k)) B rs ref t tb tb2 s k mv word tid tsh e2 e1 := by
  obtain ⟨r1, r2⟩ := h.rest (j := 0) h.rsb (by decide) (.int .i32 k)
  obtain ⟨tc, h3, h3a, h3b⟩ := h.tbk
  refine ⟨set_heap h.rsb 0 _, (Below.heap_setCell _ _ _ _ h.rs_ref.symm).trans h.refb, ⟨tc, (Below.heap_setCell _ _ _ _ h.rs_t.symm).trans h3, h3a, h3b⟩, r1, r2, h.brs, h.bref, h.bt, h.bm⟩
theorem S.setWord (h : S w B rs ref t tb tb2 s lk mv word tid tsh e2 e1) (k : Int) : S (w.setCell ⟨ref, 0, none⟩ (.int .u64 k)) B rs ref t tb tb2 s lk mv k tid tsh e2 e1 := by
  obtain ⟨r1, r2⟩ := h.rest (j := 0) h.refb (by decide) (.int .u64 k)
  obtain ⟨tc, h3, h3a, h3b⟩ := h.tbk
  refine ⟨(Below.heap_setCell _ _ _ _ h.rs_ref).trans h.rsb, set_heap h.refb 0 _, ⟨tc, (Below.heap_setCell _ _ _ _ h.ref_t.symm).trans h3, h3a, h3b⟩, r1, r2, h.brs, h.bref, h.bt, h.bm⟩
theorem S.setTsh (h : S w B rs ref t tb tb2 s lk mv word tid tsh e2 e1) (v : Value) : S (w.setCell ⟨t, 52, none⟩ v) B rs ref t tb tb2 s lk mv word tid v e2 e1 := by
  obtain ⟨tc, h3, h3a, h3b⟩ := h.tbk
  obtain ⟨r1, r2⟩ := h.rest (j := 52) h3 (by decide) v
  have hl : 52 < tc.size := (Array.getElem?_eq_some_iff.1 h3b).1
  refine ⟨(Below.heap_setCell _ _ _ _ h.rs_t).trans h.rsb, (Below.heap_setCell _ _ _ _ h.ref_t).trans h.refb, ⟨tc.setIfInBounds 52 v, set_heap h3 52 _, ?_, ?_⟩, r1, r2, h.brs, h.bref, h.bt, h.bm⟩
  · rw [Array.getElem?_setIfInBounds_ne (by decide)]; exact h3a
  · rw [Array.getElem?_setIfInBounds_self_of_lt hl]
/-- The field 'by' is set: a map without entries. -/
theorem S.by_ (h : S w B rs ref t tb tb2 s lk (.map none) word tid tsh e2 e1) {m ck : Nat} (hm : w.heap[m]? = some (.map #[] ck)) (hB : B ≤ m) : S (w.setCell ⟨rs, 2, none⟩ (.map (some m))) B rs ref t tb tb2 s lk (.map (some m)) word tid tsh e2 e1 := by
  obtain ⟨r1, _⟩ := h.rest (j := 2) h.rsb (by decide) (.map (some m))
  obtain ⟨tc, h3, h3a, h3b⟩ := h.tbk
  have hne : m ≠ rs := by
    rintro rfl
    have := h.rsb.symm.trans hm
    simp at this
  refine ⟨set_heap h.rsb 2 _, (Below.heap_setCell _ _ _ _ h.rs_ref.symm).trans h.refb, ⟨tc, (Below.heap_setCell _ _ _ _ h.rs_t.symm).trans h3, h3a, h3b⟩, r1, ?_, h.brs, h.bref, h.bt, fun m' e => by cases e; exact hB⟩
  have hmf := h.mf
  cases hmf with
  | nil a b =>
    subst a b
    exact .made m #[] ck ((Below.heap_setCell _ _ _ _ hne).trans hm) rfl

theorem S.upd (h : S w B rs ref t tb tb2 s lk mv word tid tsh e2 e1) {m : Nat} {es es' : Array MapEntry} {ck ck' : Nat} (hmv : mv = .map (some m)) (hm : w.heap[m]? = some (.map es ck)) {f2 f1 : Option Value} (he : Ents tb tb2 s f2 f1 es'.toList) :
    S { w with heap := w.heap.setIfInBounds m (.map es' ck') } B rs ref t tb tb2 s lk mv word tid tsh f2 f1 := by
  have hk : ∀ (b : Nat) (c : Array Value) (ty : TypeId), w.heap[b]? = some (.cells c ty (0, 0)) → (w.heap.setIfInBounds m (.map es' ck'))[b]? = w.heap[b]? := by
    intro b c ty hb
    have hne : m ≠ b := by
      rintro rfl
      have := hb.symm.trans hm
      simp at this
    simp [hne]
  obtain ⟨tc, h3, h3a, h3b⟩ := h.tbk
  have hl : m < w.heap.size := (Array.getElem?_eq_some_iff.1 hm).1
  refine ⟨(hk _ _ _ h.rsb).trans h.rsb, (hk _ _ _ h.refb).trans h.refb, ⟨tc, (hk _ _ _ h3).trans h3, h3a, h3b⟩, h.two.keep fun b c hb => hk _ _ _ hb, ?_, h.brs, h.bref, h.bt, h.bm⟩
  subst hmv
  exact .made m es' ck' (by simp [hl]) he

theorem S.c_lk (h : S w B rs ref t tb tb2 s lk mv word tid tsh e2 e1) : w.cell? ⟨rs, 0, none⟩ = some (.int .i32 lk) := by simp [World.cell?, h.rsb]
theorem S.c_by (h : S w B rs ref t tb tb2 s lk mv word tid tsh e2 e1) : w.cell? ⟨rs, 2, none⟩ = some mv := by simp [World.cell?, h.rsb]
theorem S.f_rs (h : S w B rs ref t tb tb2 s lk mv word tid tsh e2 e1) (j : Nat) : w.frozen? ⟨rs, j, none⟩ = false := by simp [World.frozen?, h.rsb]
theorem S.c_ref (h : S w B rs ref t tb tb2 s lk mv word tid tsh e2 e1) : w.cell? ⟨ref, 0, none⟩ = some (.int .u64 word) := by simp [World.cell?, h.refb]
theorem S.f_ref (h : S w B rs ref t tb tb2 s lk mv word tid tsh e2 e1) : w.frozen? ⟨ref, 0, none⟩ = false := by simp [World.frozen?, h.refb]
theorem S.c_tid (h : S w B rs ref t tb tb2 s lk mv word tid tsh e2 e1) : w.cell? ⟨t, 0, none⟩ = some (.int .u64 tid) := by
  obtain ⟨tc, h3, h3a, h3b⟩ := h.tbk
  simp [World.cell?, h3, h3a]
theorem S.c_tsh (h : S w B rs ref t tb tb2 s lk mv word tid tsh e2 e1) : w.cell? ⟨t, 52, none⟩ = some tsh := by
  obtain ⟨tc, h3, h3a, h3b⟩ := h.tbk
  simp [World.cell?, h3, h3b]
theorem S.f_t (h : S w B rs ref t tb tb2 s lk mv word tid tsh e2 e1) (j : Nat) : w.frozen? ⟨t, j, none⟩ = false := by
  obtain ⟨tc, h3, _⟩ := h.tbk
  simp [World.frozen?, h3]
theorem S.fxs (h : S w B rs ref t tb tb2 s lk mv word tid tsh e2 e1) (k : Int) : G B w (w.setCell ⟨rs, 0, none⟩ (.int .i32 k)) := G.setCell h.rsb rfl h.brs 0 _
theorem S.fxb (h : S w B rs ref t tb tb2 s lk mv word tid tsh e2 e1) (v : Value) : G B w (w.setCell ⟨rs, 2, none⟩ v) := G.setCell h.rsb rfl h.brs 2 _
theorem S.fxr (h : S w B rs ref t tb tb2 s lk mv word tid tsh e2 e1) (v : Value) : G B w (w.setCell ⟨ref, 0, none⟩ v) := G.setCell h.refb rfl h.bref 0 _
theorem S.fxt (h : S w B rs ref t tb tb2 s lk mv word tid tsh e2 e1) (v : Value) : G B w (w.setCell ⟨t, 52, none⟩ v) := by
  obtain ⟨tc, h3, _⟩ := h.tbk
  exact G.setCell h3 rfl h.bt 52 _
end
end Go.Proofs.Ybulkdlw.Claim
