/- LawS0222ARoundTrip: the walks of entry, String, ParseProfile, the plain table of names, and the law. -/
import Derived.Test.YbulkdooFmtIdx
namespace Go.Proofs.YbulkdooFmt
open Go.RowKit

theorem mf (fn : Fn) (first cap : Array Value) (w : World) : (Instr.makeFunc fn first cap).run Ybaf.prog w = .ok (.func fn first cap) w := rfl
theorem bcell {W w1 : World} (hb : Below W.heap.size W w1) : (∀ b o, b < W.heap.size → w1.cell? ⟨b, o, none⟩ = W.cell? ⟨b, o, none⟩) ∧ (∀ b o, b < W.heap.size → w1.frozen? ⟨b, o, none⟩ = W.frozen? ⟨b, o, none⟩) :=
  ⟨fun b o h => hb.cell (p := ⟨b, o, none⟩) h, fun b o h => hb.frozen (p := ⟨b, o, none⟩) h⟩

set_option maxRecDepth 100000 in
theorem entry_any (e : Ent) (b off cap : Nat) (j : Nat) (w : World) (T : TabAt w b off cap) (he : tab[j]? = some e)
    (hno : ∀ i e', i < j → tab[i]? = some e' → (e'.code == e.code) = false) :
    Calls Ybaf.prog 8 #[.int .u16 e.code] w fun x w' => x = .returned (.tuple #[ev e, .bool true]) ∧ Below w.heap.size w w' := by
  have hj : j < 6 := (List.getElem?_eq_some_iff.1 he).1
  have hmf := mf
  have hv := T.var
  have hpos := T.pos
  have hlt := T.lt
  have h1 : 0 < w.heap.size + 1 := by omega
  have hcap := T.cap6
  go_enter Ybaf.func8, Ybaf.ntmps8
  go_wp2_with fail
  refine (idx13 e.code w.heap.size b off cap j _ (T.below (((Below.refl _ _).alloc (Nat.le_refl _) _).alloc (by simp) _)) (by simp; omega) (by go_simp) (fun e' h => by rw [he] at h; cases h; simp) hno hj).mono ?_
  rintro x w1 ⟨rfl, hb⟩
  obtain ⟨hc, hf⟩ := bcell hb
  have hz : w.heap.size + 1 < w1.heap.size := by have := hb.size; simp at this; omega
  have hT := (T.below (((Below.refl _ _).alloc (Nat.le_refl _) _).alloc (by simp) _)).below hb
  have hv1 := hT.var
  obtain ⟨c0, c1, c2, c3, c4⟩ := hT.at_ j e he
  have hT' : Hid _ := hT
  have hb' : Hid _ := hb
  have hne : b ≠ w.heap.size + 1 := by omega
  have hne' : w.heap.size + 1 ≠ b := by omega
  clear hT hb hno he
  go_wp2_with fail
  refine bodyPost_ret (v := .tuple #[ev e, .bool true]) (by simp [results, Ybaf.results8, go_sem, hc]) rfl ⟨rfl, ?_⟩
  have h0 : Below w.heap.size w w1 := (((Below.refl _ _).alloc (Nat.le_refl _) _).alloc (by simp) _).trans (hb'.out.mono (by simp; omega))
  exact ((((h0.setCell (by simp) _).setCell (by simp) _).setCell (by simp) _).setCell (by simp) _).setCell (by simp) _

set_option maxRecDepth 100000 in
theorem string_any (e : Ent) (b off cap : Nat) (j : Nat) (w : World) (T : TabAt w b off cap) (he : tab[j]? = some e)
    (hno : ∀ i e', i < j → tab[i]? = some e' → (e'.code == e.code) = false) :
    Calls Ybaf.prog 5 #[.int .u16 e.code] w fun x w' => x = .returned (.string (str e.name)) ∧ Below w.heap.size w w' := by
  go_enter Ybaf.func5, Ybaf.ntmps5
  go_wp2_with fail
  refine (entry_any e b off cap j w T he hno).mono ?_
  rintro x w1 ⟨rfl, hb⟩
  have hb' : Hid _ := hb
  clear hb hno he
  go_wp2_with fail
  go_ret
  exact ⟨rfl, hb'.out.alloc hb'.out.size _⟩

set_option maxRecDepth 100000 in
theorem parse_any (e : Ent) (b off cap : Nat) (j : Nat) (w : World) (T : TabAt w b off cap) (he : tab[j]? = some e)
    (hno : ∀ i e', i < j → tab[i]? = some e' → (e'.name == e.name) = false) :
    Calls Ybaf.prog 7 #[.string (str e.name)] w fun x w' => x = .returned (.tuple #[.int .u16 e.code, .nilIface]) ∧ Below w.heap.size w w' := by
  have hj : j < 6 := (List.getElem?_eq_some_iff.1 he).1
  have hmf := mf
  have hv := T.var
  have hpos := T.pos
  have hlt := T.lt
  have hcap := T.cap6
  go_enter Ybaf.func7, Ybaf.ntmps7
  go_wp2_with fail
  refine (idx11 e.name w.heap.size b off cap j _ (T.below ((Below.refl _ _).alloc (Nat.le_refl _) _)) (by simp) (by go_simp) (fun e' h => by rw [he] at h; cases h; simp) hno hj).mono ?_
  rintro x w1 ⟨rfl, hb⟩
  have hT := (T.below ((Below.refl _ _).alloc (Nat.le_refl _) _)).below hb
  have hv1 := hT.var
  obtain ⟨c0, c1, c2, c3, c4⟩ := hT.at_ j e he
  have hT' : Hid _ := hT
  have hb' : Hid _ := hb
  clear hT hb hno he
  go_wp2_with fail
  go_ret2
  exact ⟨rfl, ((Below.refl _ _).alloc (Nat.le_refl _) _).trans (hb'.out.mono (by simp))⟩

set_option maxRecDepth 100000 in
theorem name_yes (e : Ent) (he : e ∈ tab) (w : World) :
    Calls Ybaf.prog 6 #[.int .u16 e.code] w fun x w' => x = .returned (.tuple #[.string (str e.name), .bool true]) ∧ w' = w := by
  simp only [tab, List.mem_cons, List.not_mem_nil, or_false] at he
  rcases he with rfl | rfl | rfl | rfl | rfl | rfl
  all_goals
    go_enter Ybaf.func6, Ybaf.ntmps6
    go_wp2
    go_ret2
    exact ⟨rfl, rfl⟩

set_option maxRecDepth 100000 in
theorem name_no (n : Int) (w : World) (h1 : (n == 1) = false) (h2 : (n == 2) = false) (h5 : (n == 5) = false) (h6 : (n == 6) = false) (h7 : (n == 7) = false) (h8 : (n == 8) = false) :
    Calls Ybaf.prog 6 #[.int .u16 n] w fun x w' => x = .returned (.tuple #[.string ⟨#[]⟩, .bool false]) ∧ w' = w := by
  go_enter Ybaf.func6, Ybaf.ntmps6
  go_wp2
  go_ret2
  exact ⟨rfl, rfl⟩

set_option maxRecDepth 100000 in
theorem law_no (n : Int) (w : World) (h1 : (n == 1) = false) (h2 : (n == 2) = false) (h5 : (n == 5) = false) (h6 : (n == 6) = false) (h7 : (n == 7) = false) (h8 : (n == 8) = false) :
    Calls Ybaf.prog 4 #[.int .u16 n] w fun x w' => x = .returned (.bool true) ∧ Below w.heap.size w w' := by
  go_enter Ybaf.func4, Ybaf.ntmps4
  go_wp2_with fail
  refine (name_no n w h1 h2 h5 h6 h7 h8).mono ?_
  rintro x w1 ⟨rfl, rfl⟩
  go_wp2_with fail
  go_ret
  exact ⟨rfl, Below.refl _ _⟩

set_option maxRecDepth 100000 in
theorem law_yes (e : Ent) (b off cap : Nat) (j : Nat) (w : World) (T : TabAt w b off cap) (he : tab[j]? = some e)
    (hno : ∀ i e', i < j → tab[i]? = some e' → (e'.code == e.code) = false) (hno2 : ∀ i e', i < j → tab[i]? = some e' → (e'.name == e.name) = false) :
    Calls Ybaf.prog 4 #[.int .u16 e.code] w fun x w' => x = .returned (.bool true) ∧ Below w.heap.size w w' := by
  have hmem : e ∈ tab := List.mem_of_getElem? he
  go_enter Ybaf.func4, Ybaf.ntmps4
  go_wp2_with fail
  refine (name_yes e hmem w).mono ?_
  rintro x w1 ⟨rfl, rfl⟩
  go_wp2_with fail
  refine (string_any e b off cap j _ T he hno).mono ?_
  rintro x w1 ⟨rfl, hb⟩
  have hb' : Hid _ := hb
  clear hb
  go_wp2_with fail
  refine (parse_any e b off cap j _ (T.below hb'.out) he hno2).mono ?_
  rintro x w2 ⟨rfl, hb2⟩
  have hb2' : Hid _ := hb2
  clear hb2 hno hno2 he hmem
  go_wp2_with fail
  go_ret
  exact ⟨by simp, hb'.out.trans (hb2'.out.mono hb'.out.size)⟩

theorem law_any (n : Int) (b off cap : Nat) (w : World) (T : TabAt w b off cap) :
    Calls Ybaf.prog 4 #[.int .u16 n] w fun x w' => x = .returned (.bool true) ∧ Below w.heap.size w w' := by
  have K : ∀ (j : Nat) (e : Ent), tab[j]? = some e → n = e.code → (∀ i, i < j → ∀ e', tab[i]? = some e' → (e'.code == e.code) = false ∧ (e'.name == e.name) = false) → Calls Ybaf.prog 4 #[.int .u16 n] w fun x w' => x = .returned (.bool true) ∧ Below w.heap.size w w' := by
    intro j e he hn h
    subst hn
    exact law_yes e b off cap j w T he (fun i e' hi he' => (h i hi e' he').1) (fun i e' hi he' => (h i hi e' he').2)
  have D : ∀ (j : Nat) (e : Ent), tab[j]? = some e → ((List.range j).all fun i => (tab[i]?).all fun e' => !(e'.code == e.code) && !(e'.name == e.name)) = true → ∀ i, i < j → ∀ e', tab[i]? = some e' → (e'.code == e.code) = false ∧ (e'.name == e.name) = false := by
    intro j e _ h i hi e' he'
    have := List.all_eq_true.1 h i (List.mem_range.2 hi)
    rw [he'] at this
    simpa using this
  by_cases h1 : n = 1
  · exact K 0 _ rfl h1 (D 0 _ rfl (by decide))
  by_cases h2 : n = 2
  · exact K 1 _ rfl h2 (D 1 _ rfl (by decide))
  by_cases h5 : n = 5
  · exact K 2 _ rfl h5 (D 2 _ rfl (by decide))
  by_cases h6 : n = 6
  · exact K 3 _ rfl h6 (D 3 _ rfl (by decide))
  by_cases h7 : n = 7
  · exact K 4 _ rfl h7 (D 4 _ rfl (by decide))
  by_cases h8 : n = 8
  · exact K 5 _ rfl h8 (D 5 _ rfl (by decide))
  exact law_no n w (by simpa using h1) (by simpa using h2) (by simpa using h5) (by simpa using h6) (by simpa using h7) (by simpa using h8)

end Go.Proofs.YbulkdooFmt
