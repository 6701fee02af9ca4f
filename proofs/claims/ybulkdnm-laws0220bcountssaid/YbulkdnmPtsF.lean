/- newMultiversion, hold over any timestamp, and the check. -/
import Derived.Test.YbulkdnmPtsE
namespace Go.Proofs.Ybulkdnm.Pts
open Go.RowKit

theorem hold_any (B mb g cap : Nat) (L : List (Int × Int)) (I : List Int) (ts : Int) (w : World) (M : MV w B mb L g cap) (hC : Cnt L I) (hI : I.length ≤ 1024) :
    Calls Yba.prog 5 #[.pointer (some ⟨mb, 0, none⟩), .int .i64 ts] w fun e w' => e = .returned (.tuple #[]) ∧ Hid (∃ L' g' cap', MV w' B mb L' g' cap' ∧ Cnt L' (I ++ [ts]) ∧ Below B w w') := by
  have hn := hC.len
  by_cases hex : ∃ p ∈ L, p.1 = ts
  · obtain ⟨p, hp, rfl⟩ := hex
    obtain ⟨r, hr⟩ := List.mem_iff_getElem?.1 hp
    have c1 := hC.cnt p hp
    have c2 := hC.pos p hp
    have c3 : I.count p.1 ≤ I.length := List.count_le_length
    refine (hold_same B mb g cap L p.1 p.2 r w M hC.asc (by omega) hr (by omega) (by omega)).mono ?_
    rintro e w' ⟨he, r', g', cap', M', hb, h0, h1, h2⟩
    have er : r' = r := by
      have hrl : r < L.length := (List.getElem?_eq_some_iff.1 hr).1
      rcases Nat.lt_trichotomy r' r with h | h | h
      · have e1 : L[r']? = some (L[r']'(by omega)) := List.getElem?_eq_getElem _
        have a1 := h2 r' _ (Nat.le_refl _) e1
        have a2 := hC.asc r' r _ _ h e1 hr
        omega
      · exact h
      · have := h1 r _ h hr
        omega
    subst er
    refine ⟨he, _, g', cap', M', ?_, hb⟩
    have e : holdL L p.1 r' = L.set r' (p.1, p.2 + 1) := by unfold holdL; rw [hr]; simp
    rw [e]
    exact cnt_same hC hr
  · have hno : ∀ p ∈ L, p.1 ≠ ts := fun p hp e => hex ⟨p, hp, e⟩
    refine (hold_new B mb g cap L ts w M hC.asc (by omega) hno).mono ?_
    rintro e w' ⟨he, r', g', cap', M', hb, h0, h1, h2⟩
    refine ⟨he, _, g', cap', M', ?_, hb⟩
    have e : holdL L ts r' = insL L ts 1 r' := by
      unfold holdL
      cases hp : L[r']? with
      | none => rfl
      | some p => simp only; rw [if_neg (hno p (List.mem_of_getElem? hp))]; rfl
    rw [e]
    exact cnt_new hC h0 hno h1 h2

theorem mv_new {B g mb : Nat} (w0 : World) (x : Array Value) (hg : g = w0.heap.size) (hm : mb = g + 1) (h : x[11]? = some (.slice (some ⟨g, 0, none⟩) 0 0)) (hB : B ≤ g) :
    MV ((w0.alloc (.cells #[] 60)).alloc (.cells x 56)) B mb [] g 0 := by
  subst hg hm
  refine ⟨⟨x, ?_, h⟩, ⟨#[], ?_, rfl, Nat.le_refl _, by unfold maxLen; omega, rfl⟩, by omega, hB⟩
  · have := heap_alloc_new (w0.alloc (.cells #[] 60)) (.cells x 56)
    simpa using this
  · rw [Below.heap_alloc _ _ _ (by simp)]
    exact heap_alloc_new w0 _

set_option maxRecDepth 100000 in
theorem new_any (w : World) :
    Calls Yba.prog 4 #[] w fun e w' => ∃ mb g cap, e = .returned (.pointer (some ⟨mb, 0, none⟩)) ∧ Hid (MV w' w.heap.size mb [] g cap ∧ Below w.heap.size w w') := by
  have hmk : ∀ (t : TypeId) (w : World), (Instr.makeMap t none).run Yba.prog w = .ok (.map (some w.heap.size)) (w.alloc (.map #[] 0)) := fun _ _ => rfl
  go_enter Yba.func4, Yba.ntmps4
  go_wp2_with fail
  go_ret
  have hb : Below w.heap.size w (((((w.alloc (.map #[] 0)).alloc (.map #[] 0)).alloc (.map #[] 0)).alloc (.cells #[] 60))) := ((((Below.refl _ _).alloc (Nat.le_refl _) _).alloc (by simp) _).alloc (by simp; omega) _).alloc (by simp; omega) _
  exact ⟨_, w.heap.size + 1 + 1 + 1, 0, rfl, mv_new (((w.alloc (.map #[] 0)).alloc (.map #[] 0)).alloc (.map #[] 0)) _ (by simp) rfl rfl (by omega), hb.alloc (by simp; omega) _⟩

/-- A slice of int64 that came in. -/
structure SlAt (w : World) (a : Option Addr) (len : Nat) (I : List Int) : Prop where
  hl : I.length = len
  at_ : 0 < len → ∃ x : Addr, a = some x ∧ ∀ j, (hj : j < I.length) → w.cell? (x.add j) = some (.int .i64 I[j])

theorem SlAt.below {w w' : World} {a : Option Addr} {len : Nat} {I : List Int} (h : SlAt w a len I) (hb : Below w.heap.size w w') : SlAt w' a len I := by
  refine ⟨h.hl, fun hp => ?_⟩
  obtain ⟨x, rfl, hx⟩ := h.at_ hp
  exact ⟨x, rfl, fun j hj => (hb.cell (World.block_lt_of_cell? _ _ (hx j hj))).trans (hx j hj)⟩

def tot (L : List (Int × Int)) (I : List Int) (j : Nat) : Nat := ((L.take j).map fun p => I.count p.1).sum
theorem tot_succ (L : List (Int × Int)) (I : List Int) (j : Nat) (p : Int × Int) (h : L[j]? = some p) : tot L I (j + 1) = tot L I j + I.count p.1 := by
  have hj : j < L.length := (List.getElem?_eq_some_iff.1 h).1
  have e : L[j] = p := by rw [List.getElem?_eq_getElem hj] at h; exact Option.some.inj h
  unfold tot
  rw [List.take_succ_eq_append_getElem hj, e]
  simp
theorem tot_le (L : List (Int × Int)) (I : List Int) (h : Cnt L I) (j : Nat) : tot L I j ≤ I.length := by
  have := cnt_total h
  have e : (L.map fun p => I.count p.1).sum = tot L I j + ((L.drop j).map fun p => I.count p.1).sum := by
    unfold tot
    conv => lhs; rw [← List.take_append_drop j L]
    rw [List.map_append, List.sum_append]
  omega
theorem take_count (I : List Int) (k : Nat) (hk : k < I.length) (t : Int) : (I.take (k + 1)).count t = (I.take k).count t + if I[k] = t then 1 else 0 := by
  rw [List.take_succ_eq_append_getElem hk, List.count_append, List.count_singleton]
  congr 1
  simp

set_option maxRecDepth 100000 in
theorem check_any (B mb g cap len c0 : Nat) (a : Option Addr) (L : List (Int × Int)) (I : List Int) (w : World) (M : MV w B mb L g cap) (hC : Cnt L I) (hI : SlAt w a len I) (hlen : len ≤ 1024) :
    Calls Yba.prog 6 #[.pointer (some ⟨mb, 0, none⟩), .slice a len c0] w fun e w' => e = .returned (.bool true) ∧ ∃ q, w' = w.drewN q := by
  have k0 := M.cell
  have HM : Hid _ := M
  have HC : Hid _ := hC
  have HI : Hid _ := hI
  have hn : L.length ≤ 1024 := by have := hC.len; have := hI.hl; omega
  clear M hC hI
  go_enter Yba.func6, Yba.ntmps6
  go_wp2_with fail
  go_loopw [6, 7] (fun t j wr => ∃ k q : Nat, k ≤ L.length ∧ t = .int .i64 (tot L I k) ∧ j = .int .i64 k ∧ wr = w.drewN q) (fun _ j _ => L.length - (intOf j).toNat)
  case atStart => exact ⟨0, 0, Nat.zero_le _, rfl, rfl, rfl⟩
  case round =>
    obtain ⟨k, q, hk, rfl, rfl, rfl⟩ := hrel
    have ht1 : tot L I k ≤ len := by have := tot_le L I HC.out k; have := HI.out.hl; omega
    by_cases hlt : k < L.length
    · obtain ⟨p, hp⟩ : ∃ p, L[k]? = some p := ⟨_, List.getElem?_eq_getElem hlt⟩
      obtain ⟨k1, k2, k3, k4⟩ := HM.out.at_ k p hp
      have hlt' : (k : Int) < (L.length : Int) := by omega
      have HP : Hid _ := hp
      clear hp
      by_cases hz : k = 0
      · have hz' : decide ((0 : Int) < (k : Int)) = false := by simp; omega
        have hzN : decide (0 < k) = false := by simp; omega
        clear hz
        go_wp2_with fail
        go_quiet (fail)
        go_wp2_with fail
        go_loopw [8, 46] (fun c j wr => ∃ i q2 : Nat, i ≤ len ∧ c = .int .i64 ((I.take i).count p.1) ∧ j = .int .i64 i ∧ wr = w.drewN q2) (fun _ j _ => len - (intOf j).toNat)
        case atStart => exact ⟨0, _, Nat.zero_le _, rfl, rfl, rfl⟩
        case round =>
          obtain ⟨i, q2, hi, rfl, rfl, rfl⟩ := hrel
          have hc1 : (I.take i).count p.1 ≤ len := by have a1 := HI.out.hl; have a2 : (I.take i).count p.1 ≤ (I.take i).length := List.count_le_length; rw [List.length_take] at a2; omega
          by_cases hil : i < len
          · obtain ⟨x, rfl, hat⟩ := HI.out.at_ (by omega)
            have hj : i < I.length := by rw [HI.out.hl]; exact hil
            have e1 := hat i hj
            have HAT : Hid _ := hat
            clear hat
            have e2 := take_count I i hj p.1
            have hil' : (i : Int) < (len : Int) := by omega
            by_cases heq : I[i] = p.1
            · rw [if_pos heq] at e2
              have HE : Hid _ := heq
              rw [heq] at e1
              clear heq
              go_wp2_with fail
              refine ⟨⟨i + 1, q2, by omega, ?_, ?_, rfl⟩, ?_⟩
              · rw [e2]; simp
              · simp
              · simp [intOf]; omega
            · rw [if_neg heq] at e2
              have hne : (I[i] == p.1) = false := by simp [heq]
              clear heq
              go_wp2_with fail
              refine ⟨⟨i + 1, q2, by omega, ?_, ?_, rfl⟩, ?_⟩
              · rw [e2]; simp
              · simp
              · simp [intOf]; omega
          · have hie : i = I.length := by rw [HI.out.hl]; omega
            have htk : (I.take i).count p.1 = I.count p.1 := by rw [hie, List.take_length]
            rw [htk] at hc1 ⊢
            have HIE : Hid _ := hie
            clear hie htk
            have hpc := HC.out.cnt p (List.mem_of_getElem? HP.out)
            have hpp := HC.out.pos p (List.mem_of_getElem? HP.out)
            have c5 : 1 ≤ I.count p.1 := by omega
            have c6 : (p.2 != ((I.count p.1 : Nat) : Int)) = false := by simp; omega
            have c7 : (((I.count p.1 : Nat) : Int) == 0) = false := by simp; omega
            have HPC : Hid _ := hpc
            clear hpc
            have hts := tot_succ L I k p HP.out
            have hts2 : tot L I (k + 1) ≤ len := by have := tot_le L I HC.out (k + 1); have := HI.out.hl; omega
            have HTS : Hid _ := hts
            clear hts
            go_wp2_with fail
            refine ⟨⟨k + 1, _, by omega, ?_, ?_, rfl⟩, ?_⟩
            · rw [HTS.out]; simp
            · simp
            · simp [intOf]; omega
      · have hz' : decide ((0 : Int) < (k : Int)) = true := by simp; omega
        obtain ⟨p', hp'⟩ : ∃ p', L[k - 1]? = some p' := ⟨_, List.getElem?_eq_getElem (by omega)⟩
        have l1 : (w.cell? ⟨g, (k - 1) * 3, none⟩) = _ := (HM.out.at_ (k - 1) p' hp').1
        have hasc := HC.out.asc (k - 1) k p' p (by omega) hp' HP.out
        have hasc' : decide (p.1 ≤ p'.1) = false := by simp; omega
        have l2 : IntKind.i64.wrap ((k : Int) - 1) = (k : Int) - 1 := by simp [IntKind.wrap, IntKind.signed, IntKind.bits]; omega
        have l3 : (0 : Int) ≤ (k : Int) - 1 := by omega
        have l4 : ((k : Int) - 1) < (L.length : Int) := by omega
        have l5 : ((k : Int) - 1).toNat = k - 1 := by omega
        have hzN : decide (0 < k) = true := by simp; omega
        have hzP : 0 < k := by omega
        clear hz
        have HP' : Hid _ := hp'
        clear hp'
        go_wp2_with fail
        go_quiet (fail)
        go_wp2_with fail
        go_loopw [8, 46] (fun c j wr => ∃ i q2 : Nat, i ≤ len ∧ c = .int .i64 ((I.take i).count p.1) ∧ j = .int .i64 i ∧ wr = w.drewN q2) (fun _ j _ => len - (intOf j).toNat)
        case atStart => exact ⟨0, _, Nat.zero_le _, rfl, rfl, rfl⟩
        case round =>
          obtain ⟨i, q2, hi, rfl, rfl, rfl⟩ := hrel
          have hc1 : (I.take i).count p.1 ≤ len := by have a1 := HI.out.hl; have a2 : (I.take i).count p.1 ≤ (I.take i).length := List.count_le_length; rw [List.length_take] at a2; omega
          by_cases hil : i < len
          · obtain ⟨x, rfl, hat⟩ := HI.out.at_ (by omega)
            have hj : i < I.length := by rw [HI.out.hl]; exact hil
            have e1 := hat i hj
            have HAT : Hid _ := hat
            clear hat
            have e2 := take_count I i hj p.1
            have hil' : (i : Int) < (len : Int) := by omega
            by_cases heq : I[i] = p.1
            · rw [if_pos heq] at e2
              have HE : Hid _ := heq
              rw [heq] at e1
              clear heq
              go_wp2_with fail
              refine ⟨⟨i + 1, q2, by omega, ?_, ?_, rfl⟩, ?_⟩
              · rw [e2]; simp
              · simp
              · simp [intOf]; omega
            · rw [if_neg heq] at e2
              have hne : (I[i] == p.1) = false := by simp [heq]
              clear heq
              go_wp2_with fail
              refine ⟨⟨i + 1, q2, by omega, ?_, ?_, rfl⟩, ?_⟩
              · rw [e2]; simp
              · simp
              · simp [intOf]; omega
          · have hie : i = I.length := by rw [HI.out.hl]; omega
            have htk : (I.take i).count p.1 = I.count p.1 := by rw [hie, List.take_length]
            rw [htk] at hc1 ⊢
            have HIE : Hid _ := hie
            clear hie htk
            have hpc := HC.out.cnt p (List.mem_of_getElem? HP.out)
            have hpp := HC.out.pos p (List.mem_of_getElem? HP.out)
            have c5 : 1 ≤ I.count p.1 := by omega
            have c6 : (p.2 != ((I.count p.1 : Nat) : Int)) = false := by simp; omega
            have c7 : (((I.count p.1 : Nat) : Int) == 0) = false := by simp; omega
            have HPC : Hid _ := hpc
            clear hpc
            have hts := tot_succ L I k p HP.out
            have hts2 : tot L I (k + 1) ≤ len := by have := tot_le L I HC.out (k + 1); have := HI.out.hl; omega
            have HTS : Hid _ := hts
            clear hts
            go_wp2_with fail
            refine ⟨⟨k + 1, _, by omega, ?_, ?_, rfl⟩, ?_⟩
            · rw [HTS.out]; simp
            · simp
            · simp [intOf]; omega
    · go_wp2_with fail
      go_ret
      have e1 := cnt_total HC.out
      have e2 : tot L I k = I.length := by rw [← e1]; unfold tot; rw [List.take_of_length_le (by omega)]
      have e3 := HI.out.hl
      have e4 : ((tot L I k : Nat) : Int) = (len : Int) := by omega
      rw [e4]
      exact ⟨by simp, q, rfl⟩
end Go.Proofs.Ybulkdnm.Pts
