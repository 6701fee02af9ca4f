/- What the law lays ahead of the claim. -/
import Derived.Test.YbulkdlwClaimF
namespace Go.Proofs.Ybulkdlw.Claim
open Go.RowKit

def aggOf : Option Value → Bool
  | some (.agg _) => true
  | _ => false
theorem zero99 : ∃ Z, ∀ w, (zeroValue 99).run Yba.prog w = .ok (.agg Z) w := by
  have h1 : aggOf ((Yba.prog.info? 99).bind (·.zero)) = true := by kernel_rfl
  cases hi : Yba.prog.info? 99 with
  | none => rw [hi] at h1; cases h1
  | some i =>
    rw [hi] at h1
    cases hz : i.zero with
    | none => simp [hz, aggOf] at h1
    | some v =>
      cases v <;> simp [hz, aggOf] at h1
      rename_i Z
      exact ⟨Z, fun w => by simp [zeroValue, typeInfo, hi, hz]⟩

theorem wrap_ne (x : Int) : x ≠ IntKind.u64.wrap (x + 1) := by
  intro h
  have e : IntKind.u64.wrap (x + 1) = (x + 1) % 18446744073709551616 := by rfl
  omega

/-- The tables and the two rows. -/
structure Base (w wx : World) (tb tb2 rb r2b : Nat) (s : Int) : Prop where
  two : Two wx tb tb2
  r : wx.heap[rb]? = some (.cells #[.pointer (some ⟨tb, 0, none⟩), .int .u32 s] 102 (0, 0))
  r2 : wx.heap[r2b]? = some (.cells #[.pointer (some ⟨tb2, 0, none⟩), .int .u32 s] 102 (0, 0))
  bel : Below w.heap.size w wx

theorem Base.kept {w wx wy : World} {tb tb2 rb r2b : Nat} {s : Int} (h : Base w wx tb tb2 rb r2b s) (g : G w.heap.size wx wy) : Base w wy tb tb2 rb r2b s := by
  obtain ⟨⟨hn, ⟨c, ha⟩, ⟨d, hb⟩⟩, h1, h2, h3⟩ := h
  exact ⟨⟨hn, ⟨c, g.kf _ _ ha rfl⟩, ⟨d, g.kf _ _ hb rfl⟩⟩, g.kf _ _ h1 rfl, g.kf _ _ h2 rfl, h3.trans g.below⟩
theorem Base.r_0 {w wx : World} {tb tb2 rb r2b : Nat} {s : Int} (h : Base w wx tb tb2 rb r2b s) : wx.cell? ⟨rb, 0, none⟩ = some (.pointer (some ⟨tb, 0, none⟩)) := by simp [World.cell?, h.r]
theorem Base.r_1 {w wx : World} {tb tb2 rb r2b : Nat} {s : Int} (h : Base w wx tb tb2 rb r2b s) : wx.cell? ⟨rb, 1, none⟩ = some (.int .u32 s) := by simp [World.cell?, h.r]
theorem Base.r2_0 {w wx : World} {tb tb2 rb r2b : Nat} {s : Int} (h : Base w wx tb tb2 rb r2b s) : wx.cell? ⟨r2b, 0, none⟩ = some (.pointer (some ⟨tb2, 0, none⟩)) := by simp [World.cell?, h.r2]
theorem Base.r2_1 {w wx : World} {tb tb2 rb r2b : Nat} {s : Int} (h : Base w wx tb tb2 rb r2b s) : wx.cell? ⟨r2b, 1, none⟩ = some (.int .u32 s) := by simp [World.cell?, h.r2]

theorem base_made (w : World) (Z : Array Value) (s : Int) :
    Base w ((((w.alloc (.cells Z 99)).alloc (.cells Z 99)).alloc (.cells #[.pointer (some ⟨w.heap.size, 0, none⟩), .int .u32 s] 102)).alloc (.cells #[.pointer (some ⟨w.heap.size + 1, 0, none⟩), .int .u32 s] 102)) w.heap.size (w.heap.size + 1) (w.heap.size + 1 + 1) (w.heap.size + 1 + 1 + 1) s := by
  refine ⟨⟨by omega, ⟨Z, ?_⟩, ⟨Z, ?_⟩⟩, ?_, ?_, ((((Below.refl _ _).alloc (Nat.le_refl _) _).alloc (by simp) _).alloc (by simp; omega) _).alloc (by simp; omega) _⟩
  · rw [Below.heap_alloc _ _ _ (by simp; omega), Below.heap_alloc _ _ _ (by simp; omega), Below.heap_alloc _ _ _ (by simp)]; exact heap_alloc_new w _
  · rw [Below.heap_alloc _ _ _ (by simp), Below.heap_alloc _ _ _ (by simp)]
    have := heap_alloc_new (w.alloc (.cells Z 99)) (.cells Z 99)
    simpa using this
  · rw [Below.heap_alloc _ _ _ (by simp)]
    have := heap_alloc_new ((w.alloc (.cells Z 99)).alloc (.cells Z 99)) (.cells #[.pointer (some ⟨w.heap.size, 0, none⟩), .int .u32 s] 102)
    simpa using this
  · have := heap_alloc_new (((w.alloc (.cells Z 99)).alloc (.cells Z 99)).alloc (.cells #[.pointer (some ⟨w.heap.size, 0, none⟩), .int .u32 s] 102)) (.cells #[.pointer (some ⟨w.heap.size + 1, 0, none⟩), .int .u32 s] 102)
    simpa using this

/-- The slice pr: the first k are copied. -/
structure Pr (w : World) (g n k : Nat) (I : List Int) : Prop where
  ex : ∃ cur : Array Value, w.heap[g]? = some (.cells cur 29 (0, 0)) ∧ cur.size = n ∧ cur.toList.take k = us (I.take k)
theorem pr_made {w : World} {b V m : Nat} {I : List Int} {ys : List Value} (h : w.ownsRow b 29 1 (.slice (some ⟨V, 0, none⟩) m m) m ys) : Pr w V m 0 I := by
  obtain ⟨_, h | ⟨g, cap, cur, e, hb, hcur, _, _, hsz, _⟩⟩ := h
  · simp at h
  · simp only [Value.slice.injEq, Option.some.injEq, Addr.mk.injEq] at e
    obtain ⟨⟨rfl, _⟩, _, rfl⟩ := e
    exact ⟨cur, hcur, by omega, by simp⟩
theorem Pr.cell {w : World} {g n k : Nat} {I : List Int} (h : Pr w g n k I) (j : Nat) (hj : j < n) : ∃ v, w.cell? ⟨g, j, none⟩ = some v := by
  obtain ⟨cur, h1, h2, _⟩ := h.ex
  exact ⟨cur[j]'(by omega), by simp [World.cell?, h1]⟩
theorem Pr.fz {w : World} {g n k : Nat} {I : List Int} (h : Pr w g n k I) (j : Nat) : w.frozen? ⟨g, j, none⟩ = false := by
  obtain ⟨cur, h1, h2, _⟩ := h.ex
  simp [World.frozen?, h1]
theorem Pr.step {w : World} {g n k : Nat} {I : List Int} (h : Pr w g n k I) (hk : k < n) (hl : I.length = n) : Pr (w.setCell ⟨g, k, none⟩ (.int .u64 (I[k]'(by omega)))) g n (k + 1) I := by
  obtain ⟨cur, h1, h2, h3⟩ := h.ex
  refine ⟨_, set_heap h1 k _, by simpa using h2, ?_⟩
  have e1 : (cur.setIfInBounds k (.int .u64 (I[k]'(by omega)))).toList.take (k + 1) = cur.toList.take k ++ [.int .u64 (I[k]'(by omega))] := by
    rw [Array.toList_setIfInBounds, List.take_succ_eq_append_getElem (by simp; omega)]
    simp only [List.take_set, List.getElem_set_self]
    rw [List.set_eq_of_length_le (by simp; omega)]
  rw [e1, h3, List.take_succ_eq_append_getElem (show k < I.length by omega)]
  show _ = List.map _ _
  rw [List.map_append]
  rfl
theorem Pr.own {w : World} {B g n : Nat} {I : List Int} (h : Pr w g n n I) (hl : I.length = n) (hB : B ≤ g) (hm : n ≤ maxLen) : w.ownsRow B 29 1 (.slice (some ⟨g, 0, none⟩) n n) n (us I) := by
  obtain ⟨cur, h1, h2, h3⟩ := h.ex
  refine ⟨by simp [hl], .inr ⟨g, n, cur, rfl, hB, h1, Nat.le_refl _, hm, by omega, ?_⟩⟩
  rw [Nat.mul_one, h3, List.take_of_length_le (by omega)]
theorem Base.prSet {w wx : World} {tb tb2 rb r2b g n k j : Nat} {s : Int} {I : List Int} (h : Base w wx tb tb2 rb r2b s) (p : Pr wx g n k I) (hB : w.heap.size ≤ g) (v : Value) : Base w (wx.setCell ⟨g, j, none⟩ v) tb tb2 rb r2b s := by
  obtain ⟨cur, h1, _, _⟩ := p.ex
  have ne : ∀ (b : Nat) (c : Array Value) (t : TypeId), t ≠ 29 → wx.heap[b]? = some (.cells c t (0, 0)) → (wx.setCell ⟨g, j, none⟩ v).heap[b]? = some (.cells c t (0, 0)) := by
    intro b c t ht hb
    rw [Below.heap_setCell _ _ _ _ (by rintro rfl; rw [h1] at hb; cases hb; exact ht rfl)]
    exact hb
  obtain ⟨⟨hn, ⟨c, ha⟩, ⟨d, hb⟩⟩, h2, h3, h4⟩ := h
  exact ⟨⟨hn, ⟨c, ne _ _ _ (by decide) ha⟩, ⟨d, ne _ _ _ (by decide) hb⟩⟩, ne _ _ _ (by decide) h2, ne _ _ _ (by decide) h3, h4.setCell hB v⟩
end Go.Proofs.Ybulkdlw.Claim
