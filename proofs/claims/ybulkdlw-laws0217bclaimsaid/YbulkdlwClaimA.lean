/- The small functions on claim's road: the atomic word, the marks, the searches. -/
import Derived.Test.YbulkdlwRows
import Derived.Test.YbulkdlwLocks
import Derived.WalkKit
import Derived.Below
import Derived.Conc.MuLone
import Derived.Laws.LoneSync
import Derived.Defers
import Derived.WalkSmall
import Derived.BigQuiet
import Derived.Deep.QuietTactic
import Derived.Laws.Externs
import Derived.Deep.RegionWith
import Derived.Deep.RegionLaw
namespace Go.Proofs.Ybulkdlw.Claim
open Go.RowKit

def shB (x : Int) : Bool := bits .and .u64 x 2305843009213693952 != 0
def idOf (x : Int) : Int := bits .and .u64 x 1152921504606846975
def fuB (x tid : Int) : Bool := (bits .and .u64 x 9223372036854775808 != 0) && (idOf x == tid)
def base (lk tid : Int) : Int := if lk = 1 then bits .or .u64 tid 9223372036854775808 else tid
def tk (lk met tid : Int) : Int :=
  if fuB met tid = true then bits .or .u64 (base lk tid) 4611686018427387904
  else if shB met = true then bits .or .u64 (base lk tid) 1152921504606846976 else base lk tid

set_option maxRecDepth 100000 in
theorem shared_any (x : Int) (w : World) : Calls Yba.prog 12 #[.int .u64 x] w fun e w' => e = .returned (.bool (shB x)) ∧ w' = w := by
  go_enter Yba.func12, Yba.ntmps12
  go_wp2_with fail
  go_ret
  exact ⟨rfl, rfl⟩
set_option maxRecDepth 100000 in
theorem id_any (x : Int) (w : World) : Calls Yba.prog 31 #[.int .u64 x] w fun e w' => e = .returned (.int .u64 (idOf x)) ∧ w' = w := by
  go_enter Yba.func31, Yba.ntmps31
  go_wp2_with fail
  go_ret
  exact ⟨rfl, rfl⟩

set_option maxRecDepth 100000 in
theorem store_any (b : Nat) (y : Int) (u : Value) (w : World) (hc : w.cell? ⟨b, 0, none⟩ = some u) (hz : w.frozen? ⟨b, 0, none⟩ = false) :
    Calls Yba.prog 4 #[.pointer (some ⟨b, 0, none⟩), .int .u64 y] w fun e w' => e = .returned (.tuple #[]) ∧ w' = w.setCell ⟨b, 0, none⟩ (.int .u64 y) := by
  have hr := run_call_store (P := Yba.prog) Yba.func8 (by kernel_rfl) (by kernel_rfl) (by kernel_rfl) (by kernel_rfl) (k := .u64) (y := y) hc hz
  go_enter Yba.func4, Yba.ntmps4
  go_wp2_with fail
  go_end0
  exact ⟨rfl, rfl⟩

set_option maxRecDepth 100000 in
theorem aload_any (b : Nat) (x : Int) (w : World) (hc : w.cell? ⟨b, 0, none⟩ = some (.int .u64 x)) :
    Calls Yba.prog 7 #[.pointer (some ⟨b, 0, none⟩)] w fun e w' => e = .returned (.int .u64 x) ∧ w' = w := by
  have hr := run_call_load (P := Yba.prog) Yba.func16 (by kernel_rfl) (by kernel_rfl) (by kernel_rfl) .u64 (by kernel_rfl) hc
  go_enter Yba.func7, Yba.ntmps7
  go_wp2_with fail
  go_ret
  exact ⟨rfl, rfl⟩

set_option maxRecDepth 100000 in
theorem hload_any (b : Nat) (x : Int) (w : World) (hc : w.cell? ⟨b, 0, none⟩ = some (.int .u64 x)) :
    Calls Yba.prog 11 #[.pointer (some ⟨b, 0, none⟩)] w fun e w' => e = .returned (.int .u64 x) ∧ w' = w := by
  go_enter Yba.func11, Yba.ntmps11
  go_wp2_with fail
  refine (aload_any b x w hc).mono ?_
  rintro e w' ⟨rfl, rfl⟩
  go_wp2_with fail
  go_ret
  exact ⟨rfl, rfl⟩

set_option maxRecDepth 100000 in
theorem cas_any (b : Nat) (x y : Int) (w : World) (hc : w.cell? ⟨b, 0, none⟩ = some (.int .u64 x)) (hz : w.frozen? ⟨b, 0, none⟩ = false) :
    Calls Yba.prog 19 #[.pointer (some ⟨b, 0, none⟩), .int .u64 x, .int .u64 y] w fun e w' => e = .returned (.bool true) ∧ w' = w.setCell ⟨b, 0, none⟩ (.int .u64 y) := by
  have hr := run_call_cas_hit (P := Yba.prog) Yba.func30 (by kernel_rfl) (by kernel_rfl) (by kernel_rfl) .u64 (by kernel_rfl) (y := y) hc hz
  go_enter Yba.func19, Yba.ntmps19
  go_wp2_with fail
  go_ret
  exact ⟨rfl, rfl⟩

set_option maxRecDepth 100000 in
theorem swap_any (b : Nat) (x y : Int) (w : World) (hc : w.cell? ⟨b, 0, none⟩ = some (.int .u64 x)) (hz : w.frozen? ⟨b, 0, none⟩ = false) :
    Calls Yba.prog 13 #[.pointer (some ⟨b, 0, none⟩), .int .u64 x, .int .u64 y] w fun e w' => e = .returned (.bool true) ∧ w' = w.setCell ⟨b, 0, none⟩ (.int .u64 y) := by
  go_enter Yba.func13, Yba.ntmps13
  go_wp2_with fail
  refine (cas_any b x y w hc hz).mono ?_
  rintro e w' ⟨rfl, rfl⟩
  go_wp2_with fail
  go_ret
  exact ⟨rfl, rfl⟩

set_option maxRecDepth 100000 in
theorem fu_any (x tid : Int) (t : Nat) (w : World) (hc : w.cell? ⟨t, 0, none⟩ = some (.int .u64 tid)) :
    Calls Yba.prog 21 #[.int .u64 x, .pointer (some ⟨t, 0, none⟩)] w fun e w' => e = .returned (.bool (fuB x tid)) ∧ ∃ q, w' = w.drewN q := by
  by_cases hg : (bits .and .u64 x 9223372036854775808 != 0) = true
  · have e1 : fuB x tid = (idOf x == tid) := by unfold fuB; rw [hg]; rfl
    rw [e1]
    clear e1
    go_enter Yba.func21, Yba.ntmps21
    go_wp2_with fail
    go_quiet (first | (go_at_call 31; refine Calls.quiet_of_same (id_any x _)))
    go_wp2_with fail
    go_ret
    exact ⟨rfl, _, rfl⟩
  · have hg' : (bits .and .u64 x 9223372036854775808 != 0) = false := by simpa using hg
    have e1 : fuB x tid = false := by unfold fuB; rw [hg']; rfl
    rw [e1]
    clear hg e1
    go_enter Yba.func21, Yba.ntmps21
    go_wp2_with fail
    go_quiet (fail)
    go_wp2_with fail
    go_ret
    exact ⟨rfl, _, rfl⟩

set_option maxRecDepth 100000 in
theorem taking_any (lk wt met tid : Int) (t : Nat) (w : World) (hc : w.cell? ⟨t, 0, none⟩ = some (.int .u64 tid)) :
    Calls Yba.prog 15 #[.agg #[.int .u8 lk, .int .u8 wt], .pointer (some ⟨t, 0, none⟩), .int .u64 met] w fun e w' => e = .returned (.int .u64 (tk lk met tid)) ∧ ∃ q, w' = (w.alloc (.cells #[.int .u8 lk, .int .u8 wt] 143)).drewN q := by
  have ht : t < w.heap.size := World.block_lt_of_cell? _ _ hc
  have hc' : (w.alloc (.cells #[.int .u8 lk, .int .u8 wt] 143)).cell? ⟨t, 0, none⟩ = some (.int .u64 tid) := (Below.cell ((Below.refl w.heap.size w).alloc (Nat.le_refl _) _) (p := ⟨t, 0, none⟩) ht).trans hc
  obtain ⟨bs, hbs⟩ : ∃ v, v = base lk tid := ⟨_, rfl⟩
  have etk : tk lk met tid = if fuB met tid = true then bits .or .u64 bs 4611686018427387904 else if shB met = true then bits .or .u64 bs 1152921504606846976 else bs := by rw [hbs]; rfl
  unfold base at hbs
  have HT : Hid _ := etk
  clear etk
  by_cases hl : lk = 1
  · rw [if_pos hl] at hbs
    subst hl hbs
    go_enter Yba.func15, Yba.ntmps15
    go_wp2_with fail
    refine (fu_any met tid t _ hc').mono ?_
    rintro e w' ⟨rfl, q, rfl⟩
    by_cases hf : fuB met tid = true
    · go_wp2_with fail
      go_ret
      rw [HT.out, if_pos hf]
      exact ⟨rfl, _, rfl⟩
    · have hf' : fuB met tid = false := by simpa using hf
      clear hf
      go_wp2_with fail
      refine (shared_any met _).mono ?_
      rintro e w' ⟨rfl, rfl⟩
      by_cases hs : shB met = true
      · go_wp2_with fail
        go_ret
        rw [HT.out, hf', if_neg (by simp), if_pos hs]
        exact ⟨rfl, _, rfl⟩
      · have hs' : shB met = false := by simpa using hs
        clear hs
        go_wp2_with fail
        go_ret
        rw [HT.out, hf', hs', if_neg (by simp), if_neg (by simp)]
        exact ⟨rfl, _, rfl⟩
  · rw [if_neg hl] at hbs
    have hl' : (lk == 1) = false := by simp [hl]
    subst hbs
    clear hl
    go_enter Yba.func15, Yba.ntmps15
    go_wp2_with fail
    refine (fu_any met bs t _ hc').mono ?_
    rintro e w' ⟨rfl, q, rfl⟩
    by_cases hf : fuB met bs = true
    · go_wp2_with fail
      go_ret
      rw [HT.out, if_pos hf]
      exact ⟨rfl, _, rfl⟩
    · have hf' : fuB met bs = false := by simpa using hf
      clear hf
      go_wp2_with fail
      refine (shared_any met _).mono ?_
      rintro e w' ⟨rfl, rfl⟩
      by_cases hs : shB met = true
      · go_wp2_with fail
        go_ret
        rw [HT.out, hf', if_neg (by simp), if_pos hs]
        exact ⟨rfl, _, rfl⟩
      · have hs' : shB met = false := by simpa using hs
        clear hs
        go_wp2_with fail
        go_ret
        rw [HT.out, hf', hs', if_neg (by simp), if_neg (by simp)]
        exact ⟨rfl, _, rfl⟩

/-- A slice of uint64 that is read: I are its elements. -/
structure SlAt (w : World) (a : Option Addr) (len : Nat) (I : List Int) : Prop where
  hl : I.length = len
  at_ : 0 < len → ∃ x : Addr, a = some x ∧ ∀ j, (hj : j < I.length) → w.cell? (x.add j) = some (.int .u64 I[j])
theorem SlAt.below {w w' : World} {a : Option Addr} {len : Nat} {I : List Int} (h : SlAt w a len I) (hb : Below w.heap.size w w') : SlAt w' a len I := by
  refine ⟨h.hl, fun hp => ?_⟩
  obtain ⟨x, rfl, hx⟩ := h.at_ hp
  exact ⟨x, rfl, fun j hj => (hb.cell (World.block_lt_of_cell? _ _ (hx j hj))).trans (hx j hj)⟩

theorem not_mem_take {I : List Int} {t : Int} {k : Nat} (h : ¬ t ∈ I.take k) (hk : k < I.length) (hne : I[k] ≠ t) : ¬ t ∈ I.take (k + 1) := by
  rw [List.take_succ_eq_append_getElem hk, List.mem_append]
  rintro (h' | h')
  · exact h h'
  · exact hne (List.mem_singleton.1 h').symm

set_option maxRecDepth 100000 in
theorem has_any (a : Option Addr) (len c0 : Nat) (I : List Int) (t : Int) (w : World) (hI : SlAt w a len I) (hlen : len ≤ 1025) :
    Calls Yba.prog 6 #[.slice a len c0, .int .u64 t] w fun e w' => e = .returned (.bool (decide (t ∈ I))) ∧ w' = w := by
  have HI : Hid _ := hI
  clear hI
  go_enter Yba.func6, Yba.ntmps6
  go_wp2_with fail
  go_loopw [5] (fun j wr => ∃ k : Nat, k ≤ len ∧ j = .int .i64 k ∧ wr = w ∧ ¬ t ∈ I.take k) (fun j _ => len - (intOf j).toNat)
  case atStart => exact ⟨0, Nat.zero_le _, rfl, rfl, by simp⟩
  case round =>
    obtain ⟨k, hk, rfl, rfl, hno⟩ := hrel
    have HN : Hid _ := hno
    clear hno
    by_cases hlt : k < len
    · obtain ⟨x, rfl, hat⟩ := HI.out.at_ (by omega)
      have hj : k < I.length := by rw [HI.out.hl]; exact hlt
      have e1 := hat k hj
      have hlt' : (k : Int) < (len : Int) := by omega
      have hl2 : I.length = len := HI.out.hl
      have HL : Hid _ := hl2
      clear hat hl2
      by_cases heq : I[k] = t
      · have hm : decide (t ∈ I) = true := by rw [← heq]; exact decide_eq_true (List.getElem_mem hj)
        rw [heq] at e1
        clear heq
        go_wp2_with fail
        go_ret
        rw [hm]
        exact ⟨rfl, rfl⟩
      · have hne : (I[k] == t) = false := by simp [heq]
        have HE : Hid _ := heq
        clear heq
        go_wp2_with fail
        refine ⟨⟨k + 1, by omega, by simp, by simp, ?_⟩, ?_⟩
        · exact not_mem_take HN.out hj HE.out
        · simp [intOf]; omega
    · have hm : decide (t ∈ I) = false := by
        have := HN.out
        rw [List.take_of_length_le (by rw [HI.out.hl]; omega)] at this
        simpa using this
      go_wp2_with fail
      go_ret
      rw [hm]
      exact ⟨rfl, rfl⟩

set_option maxRecDepth 100000 in
theorem index_any (a : Option Addr) (len c0 : Nat) (I : List Int) (t : Int) (w : World) (hI : SlAt w a len I) (hlen : len ≤ 1025) :
    Calls Yba.prog 20 #[.slice a len c0, .int .u64 t] w fun e w' => ∃ r : Int, e = .returned (.int .i64 r) ∧ w' = w ∧ decide (0 ≤ r) = decide (t ∈ I) := by
  have HI : Hid _ := hI
  clear hI
  go_enter Yba.func20, Yba.ntmps20
  go_wp2_with fail
  go_loopw [8] (fun j wr => ∃ k : Nat, k ≤ len ∧ j = .int .i64 k ∧ wr = w ∧ ¬ t ∈ I.take k) (fun j _ => len - (intOf j).toNat)
  case atStart => exact ⟨0, Nat.zero_le _, rfl, rfl, by simp⟩
  case round =>
    obtain ⟨k, hk, rfl, rfl, hno⟩ := hrel
    have HN : Hid _ := hno
    clear hno
    by_cases hlt : k < len
    · obtain ⟨x, rfl, hat⟩ := HI.out.at_ (by omega)
      have hj : k < I.length := by rw [HI.out.hl]; exact hlt
      have e1 := hat k hj
      have hlt' : (k : Int) < (len : Int) := by omega
      have hl2 : I.length = len := HI.out.hl
      have HL : Hid _ := hl2
      clear hat hl2
      by_cases heq : I[k] = t
      · have hm : decide (t ∈ I) = true := by rw [← heq]; exact decide_eq_true (List.getElem_mem hj)
        rw [heq] at e1
        clear heq
        go_wp2_with fail
        go_ret
        rw [hm]
        exact ⟨_, rfl, rfl, by simp⟩
      · have hne : (t == I[k]) = false := by simp [Ne.symm heq]
        have HE : Hid _ := heq
        clear heq
        go_wp2_with fail
        refine ⟨⟨k + 1, by omega, by simp, by simp, ?_⟩, ?_⟩
        · exact not_mem_take HN.out hj HE.out
        · simp [intOf]; omega
    · have hm : decide (t ∈ I) = false := by
        have := HN.out
        rw [List.take_of_length_le (by rw [HI.out.hl]; omega)] at this
        simpa using this
      go_wp2_with fail
      go_ret
      rw [hm]
      exact ⟨_, rfl, rfl, by simp⟩

set_option maxRecDepth 100000 in
theorem contains_any (a : Option Addr) (len c0 : Nat) (I : List Int) (t : Int) (w : World) (hI : SlAt w a len I) (hlen : len ≤ 1025) :
    Calls Yba.prog 14 #[.slice a len c0, .int .u64 t] w fun e w' => e = .returned (.bool (decide (t ∈ I))) ∧ w' = w := by
  go_enter Yba.func14, Yba.ntmps14
  go_wp2_with fail
  refine (index_any a len c0 I t w hI hlen).mono ?_
  rintro e w' ⟨r, rfl, rfl, hr⟩
  go_wp2_with fail
  go_ret
  exact ⟨rfl, rfl⟩
end Go.Proofs.Ybulkdlw.Claim
