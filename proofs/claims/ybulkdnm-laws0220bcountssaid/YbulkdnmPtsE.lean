/- The plain law: what the points hold after a list of holds. No Go text. -/
import Derived.Test.YbulkdnmPtsD
namespace Go.Proofs.Ybulkdnm.Pts

/-- The points after the timestamps I have been held. -/
structure Cnt (L : List (Int × Int)) (I : List Int) : Prop where
  asc : Asc L
  cnt : ∀ p ∈ L, p.2 = (I.count p.1 : Int)
  pos : ∀ p ∈ L, 1 ≤ p.2
  cov : ∀ x ∈ I, ∃ p ∈ L, p.1 = x
  len : L.length ≤ I.length

theorem cnt_nil : Cnt [] [] := ⟨fun i j p q _ h _ => by simp at h, fun p h => by simp at h, fun p h => by simp at h, fun x h => by simp at h, Nat.le_refl _⟩

theorem set_get {L : List (Int × Int)} {r : Nat} {p : Int × Int} (hr : L[r]? = some p) {c : Int} {i : Nat} {q : Int × Int} (h : (L.set r (p.1, c))[i]? = some q) : ∃ q0, L[i]? = some q0 ∧ q0.1 = q.1 ∧ (i ≠ r → q0 = q) ∧ (i = r → q = (p.1, c)) := by
  rw [List.getElem?_set] at h
  have hl : r < L.length := (List.getElem?_eq_some_iff.1 hr).1
  by_cases e : r = i
  · subst e
    simp only [if_true, if_pos hl] at h
    have := Option.some.inj h
    subst this
    exact ⟨p, hr, rfl, fun h => absurd rfl h, fun _ => rfl⟩
  · rw [if_neg e] at h
    exact ⟨q, h, rfl, fun _ => rfl, fun h => absurd h.symm e⟩

theorem asc_inj {L : List (Int × Int)} (h : Asc L) {i j : Nat} {p q : Int × Int} (hi : L[i]? = some p) (hj : L[j]? = some q) (e : p.1 = q.1) : i = j := by
  rcases Nat.lt_trichotomy i j with h1 | h1 | h1
  · have := h i j p q h1 hi hj; omega
  · exact h1
  · have := h j i q p h1 hj hi; omega

theorem cnt_same {L : List (Int × Int)} {I : List Int} (h : Cnt L I) {r : Nat} {p : Int × Int} (hr : L[r]? = some p) : Cnt (L.set r (p.1, p.2 + 1)) (I ++ [p.1]) := by
  refine ⟨?_, ?_, ?_, ?_, ?_⟩
  · intro i j a b hij ha hb
    obtain ⟨a0, ha0, ea, _⟩ := set_get hr ha
    obtain ⟨b0, hb0, eb, _⟩ := set_get hr hb
    have := h.asc i j a0 b0 hij ha0 hb0
    omega
  · intro q hq
    obtain ⟨i, hi⟩ := List.mem_iff_getElem?.1 hq
    obtain ⟨q0, h0, e0, e1, e2⟩ := set_get hr hi
    by_cases hir : i = r
    · have eq := e2 hir
      have hp := h.cnt p (List.mem_of_getElem? hr)
      rw [eq]
      simp only [List.count_append, List.count_singleton_self]
      omega
    · have eq := e1 hir
      subst eq
      have hq0 := h.cnt q0 (List.mem_of_getElem? h0)
      have hne : p.1 ≠ q0.1 := fun e => hir (asc_inj h.asc h0 hr e.symm)
      rw [hq0, List.count_append, List.count_cons_of_ne hne]
      simp
  · intro q hq
    obtain ⟨i, hi⟩ := List.mem_iff_getElem?.1 hq
    obtain ⟨q0, h0, e0, e1, e2⟩ := set_get hr hi
    have hp := h.pos p (List.mem_of_getElem? hr)
    by_cases hir : i = r
    · rw [e2 hir]; simp only; omega
    · rw [← e1 hir]; exact h.pos q0 (List.mem_of_getElem? h0)
  · intro x hx
    have hmem : ∀ q ∈ L, ∃ q' ∈ L.set r (p.1, p.2 + 1), q'.1 = q.1 := by
      intro q hq
      obtain ⟨i, hi⟩ := List.mem_iff_getElem?.1 hq
      by_cases hir : r = i
      · subst hir
        rw [hr] at hi
        cases hi
        exact ⟨(p.1, p.2 + 1), List.mem_iff_getElem?.2 ⟨r, by rw [List.getElem?_set_self (List.getElem?_eq_some_iff.1 hr).1]⟩, rfl⟩
      · exact ⟨q, List.mem_iff_getElem?.2 ⟨i, by rw [List.getElem?_set_ne hir]; exact hi⟩, rfl⟩
    rcases List.mem_append.1 hx with h1 | h1
    · obtain ⟨q, hq, e⟩ := h.cov x h1
      obtain ⟨q', hq', e'⟩ := hmem q hq
      exact ⟨q', hq', e'.trans e⟩
    · obtain ⟨q', hq', e'⟩ := hmem p (List.mem_of_getElem? hr)
      exact ⟨q', hq', e'.trans (List.mem_singleton.1 h1).symm⟩
  · have := h.len
    simp; omega

theorem ins_get {L : List (Int × Int)} {ts c : Int} {r : Nat} (hr : r ≤ L.length) (i : Nat) : (insL L ts c r)[i]? = if i < r then L[i]? else if i = r then some (ts, c) else L[i - 1]? := by
  have hl : (L.take r).length = r := by rw [List.length_take]; omega
  unfold insL
  by_cases h1 : i < r
  · rw [if_pos h1, List.getElem?_append_left (by omega), List.getElem?_take_of_lt h1]
  · rw [if_neg h1, List.getElem?_append_right (by omega), hl]
    by_cases h2 : i = r
    · rw [if_pos h2, h2]; simp
    · rw [if_neg h2]
      obtain ⟨k, hk⟩ : ∃ k, i - r = k + 1 := ⟨i - r - 1, by omega⟩
      rw [hk, List.getElem?_cons_succ, List.getElem?_drop]
      congr 1
      omega

theorem cnt_new {L : List (Int × Int)} {I : List Int} (h : Cnt L I) {r : Nat} {ts : Int} (hr : r ≤ L.length) (hno : ∀ p ∈ L, p.1 ≠ ts) (h1 : ∀ (i : Nat) (p : Int × Int), i < r → L[i]? = some p → p.1 < ts) (h2 : ∀ (i : Nat) (p : Int × Int), r ≤ i → L[i]? = some p → ts ≤ p.1) :
    Cnt (insL L ts 1 r) (I ++ [ts]) := by
  have hge : ∀ (i : Nat) (p : Int × Int), r ≤ i → L[i]? = some p → ts < p.1 := fun i p hi hp => by
    have := h2 i p hi hp
    have := hno p (List.mem_of_getElem? hp)
    omega
  have hz : I.count ts = 0 := by
    rw [List.count_eq_zero]
    intro hm
    obtain ⟨p, hp, e⟩ := h.cov ts hm
    exact hno p hp e
  have hmem : ∀ q ∈ insL L ts 1 r, q = (ts, 1) ∨ q ∈ L := by
    intro q hq
    simp only [insL, List.mem_append, List.mem_cons] at hq
    rcases hq with hq | hq | hq
    · exact .inr (List.mem_of_mem_take hq)
    · exact .inl hq
    · exact .inr (List.mem_of_mem_drop hq)
  have hin : ∀ q ∈ L, q ∈ insL L ts 1 r := by
    intro q hq
    rw [← List.take_append_drop r L] at hq
    simp only [insL, List.mem_append, List.mem_cons] at hq ⊢
    rcases hq with hq | hq
    · exact .inl hq
    · exact .inr (.inr hq)
  refine ⟨?_, ?_, ?_, ?_, ?_⟩
  · intro i j a b hij ha hb
    rw [ins_get hr] at ha hb
    by_cases i1 : i < r
    · rw [if_pos i1] at ha
      by_cases j1 : j < r
      · rw [if_pos j1] at hb
        exact h.asc i j a b hij ha hb
      · rw [if_neg j1] at hb
        have ha1 := h1 i a i1 ha
        by_cases j2 : j = r
        · rw [if_pos j2] at hb; cases hb; exact ha1
        · rw [if_neg j2] at hb
          have := hge (j - 1) b (by omega) hb
          omega
    · rw [if_neg i1] at ha
      have j1 : ¬ j < r := by omega
      have j2 : ¬ j = r := by omega
      rw [if_neg j1, if_neg j2] at hb
      by_cases i2 : i = r
      · rw [if_pos i2] at ha; cases ha
        exact hge (j - 1) b (by omega) hb
      · rw [if_neg i2] at ha
        exact h.asc (i - 1) (j - 1) a b (by omega) ha hb
  · intro q hq
    rcases hmem q hq with rfl | hq
    · simp [hz]
    · have := h.cnt q hq
      rw [this, List.count_append, List.count_cons_of_ne (fun e => hno q hq e.symm)]
      simp
  · intro q hq
    rcases hmem q hq with rfl | hq
    · exact Int.le_refl _
    · exact h.pos q hq
  · intro x hx
    rcases List.mem_append.1 hx with hx | hx
    · obtain ⟨q, hq, e⟩ := h.cov x hx
      exact ⟨q, hin q hq, e⟩
    · refine ⟨(ts, 1), ?_, (List.mem_singleton.1 hx).symm⟩
      simp [insL]
  · rw [insL_len L ts 1 r hr]
    have := h.len
    simp; omega

/-- The counts of distinct keys that cover a list add up to its length. -/
theorem sum_counts : ∀ (K : List Int) (I : List Int), K.Nodup → (∀ x ∈ I, x ∈ K) → (K.map fun k => I.count k).sum = I.length
  | [], I, _, h => by
    have : I = [] := List.eq_nil_iff_forall_not_mem.2 fun x hx => by simpa using h x hx
    subst this; rfl
  | k :: K, I, hn, h => by
    obtain ⟨hk, hn'⟩ := List.nodup_cons.1 hn
    have ih := sum_counts K (I.filter fun x => x != k) hn' (fun x hx => by
      obtain ⟨h1, h2⟩ := List.mem_filter.1 hx
      have h3 : x ≠ k := by simpa using h2
      rcases List.mem_cons.1 (h x h1) with h4 | h4
      · exact absurd h4 h3
      · exact h4)
    have e1 : (K.map fun k' => I.count k') = K.map fun k' => (I.filter fun x => x != k).count k' := by
      apply List.map_congr_left
      intro k' hk'
      rw [List.count_filter]
      have : k' ≠ k := fun e => hk (e ▸ hk')
      simpa using this
    have e2 : I.count k + (I.filter fun x => x != k).length = I.length := by
      have := List.length_eq_countP_add_countP (fun x => x == k) (l := I)
      rw [this, List.count_eq_countP, ← List.countP_eq_length_filter]
      congr 1
      apply List.countP_congr
      intro x _
      simp
    rw [List.map_cons, List.sum_cons, e1, ih, e2]

theorem asc_nodup {L : List (Int × Int)} (h : Asc L) : (L.map Prod.fst).Nodup := by
  rw [List.nodup_iff_pairwise_ne, List.pairwise_map, List.pairwise_iff_getElem]
  intro i j hi hj hij
  have := h i j _ _ hij (List.getElem?_eq_getElem hi) (List.getElem?_eq_getElem hj)
  omega

theorem cnt_total {L : List (Int × Int)} {I : List Int} (h : Cnt L I) : ((L.map fun p => I.count p.1).sum : Nat) = I.length := by
  have := sum_counts (L.map Prod.fst) I (asc_nodup h.asc) (fun x hx => by
    obtain ⟨p, hp, e⟩ := h.cov x hx
    exact List.mem_map.2 ⟨p, hp, e⟩)
  rw [List.map_map] at this
  exact this
end Go.Proofs.Ybulkdnm.Pts
