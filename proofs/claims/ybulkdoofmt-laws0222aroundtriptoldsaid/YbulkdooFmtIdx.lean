/- slices.IndexFunc over the table, with the two closures; their contracts. -/
import Derived.Test.YbulkdooFmtTab
namespace Go.Proofs.YbulkdooFmt
open Go.RowKit

abbrev ev (e : Ent) : Value := .agg #[.int .u16 e.code, .string (str e.name), .int .u8 e.kind, .int .i64 e.klen, .int .i64 e.tlen]

theorem str_toList (l : List UInt8) : (str l).toList = l := by
  simp [str]

set_option maxRecDepth 100000 in
theorem clos13 (e : Ent) (p : Int) (a : Nat) (w : World) (hp : w.cell? ⟨a, 0, none⟩ = some (.int .u16 p)) (ha : a < w.heap.size) :
    Calls Ybaf.prog 13 #[ev e, .pointer (some ⟨a, 0, none⟩)] w fun x w' => x = .returned (.bool (e.code == p)) ∧ Below w.heap.size w w' := by
  go_enter Ybaf.func13, Ybaf.ntmps13
  go_wp2
  go_ret
  exact ⟨rfl, (Below.refl _ _).alloc (Nat.le_refl _) _⟩

set_option maxRecDepth 100000 in
theorem clos11 (e : Ent) (s : List UInt8) (a : Nat) (w : World) (hp : w.cell? ⟨a, 0, none⟩ = some (.string (str s))) (ha : a < w.heap.size) :
    Calls Ybaf.prog 11 #[ev e, .pointer (some ⟨a, 0, none⟩)] w fun x w' => x = .returned (.bool (e.name == s)) ∧ Below w.heap.size w w' := by
  go_enter Ybaf.func11, Ybaf.ntmps11
  go_wp2
  go_ret
  refine ⟨?_, (Below.refl _ _).alloc (Nat.le_refl _) _⟩
  simp [str_toList]


set_option maxRecDepth 100000 in
theorem idx13 (p : Int) (a b off cap : Nat) (j : Nat) (w : World) (T : TabAt w b off cap) (ha : a < w.heap.size) (hp : w.cell? ⟨a, 0, none⟩ = some (.int .u16 p))
    (hyes : ∀ e, tab[j]? = some e → (e.code == p) = true) (hno : ∀ i e, i < j → tab[i]? = some e → (e.code == p) = false) (hj : j < 6) :
    Calls Ybaf.prog 10 #[.slice (some ⟨b, off, none⟩) 6 cap, .func (.func 13) #[] #[.pointer (some ⟨a, 0, none⟩)]] w fun x w' => x = .returned (.int .i64 j) ∧ Below w.heap.size w w' := by
  go_enter Ybaf.func10, Ybaf.ntmps10
  go_wp2_with fail
  go_loopw [8] (fun i w' => ∃ k : Nat, k ≤ j ∧ i = .int .i64 k ∧ Below w.heap.size w w') (fun i _ => 6 - (intOf i).toNat)
  case atStart => exact ⟨0, Nat.zero_le _, rfl, Below.refl _ _⟩
  case round =>
    obtain ⟨k, hk, rfl, hb⟩ := hrel
    have T' := T.below hb
    have hk6 : k < 6 := by omega
    have hp' : wr.cell? ⟨a, 0, none⟩ = some (.int .u16 p) := (hb.cell ha).trans hp
    have ha' : a < wr.heap.size := Nat.lt_of_lt_of_le ha hb.size
    obtain ⟨e, he⟩ : ∃ e, tab[k]? = some e := ⟨_, List.getElem?_eq_getElem (show k < tab.length from hk6)⟩
    obtain ⟨c0, c1, c2, c3, c4⟩ := T'.at_ k e he
    have hB : Hid _ := hb
    clear T' hb hp
    by_cases hkj : k = j
    · have hy := hyes e (hkj ▸ he)
      have hkj' : Hid _ := hkj
      clear hyes hno hkj
      go_wp2_with fail
      refine (clos13 e p a wr hp' ha').mono ?_
      rintro x w2 ⟨rfl, hb2⟩
      have hb2' : Hid _ := hb2
      clear hb2
      rw [hy]
      go_wp2_with fail
      go_ret
      exact ⟨by rw [← hkj'.out]; rfl, hB.out.trans (hb2'.out.mono hB.out.size)⟩
    · have hn := hno k e (by omega) he
      clear hyes hno
      go_wp2_with fail
      refine (clos13 e p a wr hp' ha').mono ?_
      rintro x w2 ⟨rfl, hb2⟩
      have hb2' : Hid _ := hb2
      clear hb2
      rw [hn]
      go_wp2_with fail
      go_roundw
      case rel => exact ⟨k + 1, by omega, by go_num, hB.out.trans (hb2'.out.mono hB.out.size)⟩
      case measure => simp [intOf]; omega

set_option maxRecDepth 100000 in
theorem idx11 (p : List UInt8) (a b off cap : Nat) (j : Nat) (w : World) (T : TabAt w b off cap) (ha : a < w.heap.size) (hp : w.cell? ⟨a, 0, none⟩ = some (.string (str p)))
    (hyes : ∀ e, tab[j]? = some e → (e.name == p) = true) (hno : ∀ i e, i < j → tab[i]? = some e → (e.name == p) = false) (hj : j < 6) :
    Calls Ybaf.prog 10 #[.slice (some ⟨b, off, none⟩) 6 cap, .func (.func 11) #[] #[.pointer (some ⟨a, 0, none⟩)]] w fun x w' => x = .returned (.int .i64 j) ∧ Below w.heap.size w w' := by
  go_enter Ybaf.func10, Ybaf.ntmps10
  go_wp2_with fail
  go_loopw [8] (fun i w' => ∃ k : Nat, k ≤ j ∧ i = .int .i64 k ∧ Below w.heap.size w w') (fun i _ => 6 - (intOf i).toNat)
  case atStart => exact ⟨0, Nat.zero_le _, rfl, Below.refl _ _⟩
  case round =>
    obtain ⟨k, hk, rfl, hb⟩ := hrel
    have T' := T.below hb
    have hk6 : k < 6 := by omega
    have hp' : wr.cell? ⟨a, 0, none⟩ = some (.string (str p)) := (hb.cell ha).trans hp
    have ha' : a < wr.heap.size := Nat.lt_of_lt_of_le ha hb.size
    obtain ⟨e, he⟩ : ∃ e, tab[k]? = some e := ⟨_, List.getElem?_eq_getElem (show k < tab.length from hk6)⟩
    obtain ⟨c0, c1, c2, c3, c4⟩ := T'.at_ k e he
    have hB : Hid _ := hb
    clear T' hb hp
    by_cases hkj : k = j
    · have hy := hyes e (hkj ▸ he)
      have hkj' : Hid _ := hkj
      clear hyes hno hkj
      go_wp2_with fail
      refine (clos11 e p a wr hp' ha').mono ?_
      rintro x w2 ⟨rfl, hb2⟩
      have hb2' : Hid _ := hb2
      clear hb2
      rw [hy]
      go_wp2_with fail
      go_ret
      exact ⟨by rw [← hkj'.out]; rfl, hB.out.trans (hb2'.out.mono hB.out.size)⟩
    · have hn := hno k e (by omega) he
      clear hyes hno
      go_wp2_with fail
      refine (clos11 e p a wr hp' ha').mono ?_
      rintro x w2 ⟨rfl, hb2⟩
      have hb2' : Hid _ := hb2
      clear hb2
      rw [hn]
      go_wp2_with fail
      go_roundw
      case rel => exact ⟨k + 1, by omega, by go_num, hB.out.trans (hb2'.out.mono hB.out.size)⟩
      case measure => simp [intOf]; omega

end Go.Proofs.YbulkdooFmt
