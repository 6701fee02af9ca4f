/- What the checks read. -/
import Derived.Test.YbulkdlwClaimK
namespace Go.Proofs.Ybulkdlw.Claim
open Go.RowKit

section
variable {w0 w' : World} {rs ref t tb tb2 rb r2b : Nat} {s tid : Int} {a8 : Bool} {o : Value} {O : List Int} {shd : Bool} {W : Int} {pres : Bool} {E : List Int}

theorem own_sl {w : World} {base n : Nat} {v : Value} {I : List Int} (h : w.ownsRow base 29 1 v n (us I)) : ∃ a l c, v = .slice a l c ∧ SlAt w a l I ∧ (a = none → I = []) := by
  have h' := h
  rcases h.2 with ⟨rfl, rfl⟩ | ⟨g, cap, cur, rfl, _⟩
  · exact ⟨none, 0, 0, rfl, own_slAt h', fun _ => List.eq_nil_of_length_eq_zero (by simpa using h.1)⟩
  · exact ⟨_, _, _, rfl, own_slAt h', fun e => (by cases e)⟩

theorem Fin.others (h : Fin w0 w' rs ref t tb tb2 rb r2b s tid a8 o O shd W pres E) : ∃ oa on oc, o = .slice oa on oc ∧ SlAt w' oa on O ∧ (oa = none ↔ O = []) := by
  obtain ⟨_, e2, h2, _⟩ := h
  obtain ⟨a, l, c, rfl, h3, h4⟩ := own_sl h2.own
  refine ⟨a, l, c, rfl, h3, h4, fun hO => ?_⟩
  have := h2.nil.2 hO
  cases this
  rfl

theorem neq_kv (tb : Nat) (s : Int) (w : World) : (binOp .neq 102 (.agg #[.pointer (some ⟨tb, 0, none⟩), .int .u32 s]) (.agg #[.pointer (some ⟨tb, 0, none⟩), .int .u32 s])).run Yba.prog w = .ok (.bool false) w := by
  rw [run_neq_struct]
  have h := eq_same_d 9998 tb s w
  unfold kv at h
  rw [h]
  rfl
theorem guard102 : Yba.prog.eqGuardType Yba.prog.depth 102 = false := by kernel_rfl
theorem guard_kv (x y : Operand) (xs ys : Array Value) (w : World) : (eqGuard .neq 102 x y (.agg xs) (.agg ys)).run Yba.prog w = .ok () w := run_eqGuard_agg w .neq 102 x y xs ys guard102

theorem outO_le (st : Bool) (sel T : Int) (I : List Int) : (outO st sel T I).length ≤ I.length := by
  unfold outO
  split
  · simp
  · split
    · simp
    · exact oth_le I T I.length
theorem outE_le (st : Bool) (sel word T : Int) (I : List Int) : (outE st sel word T I).length ≤ I.length + 1 := by
  unfold outE held
  split
  · split <;> simp
  · omega

/-- All that the checks read, in one list. -/
structure Chk (w : World) (rs ref t tb tb2 : Nat) (s : Int) (a8 shd : Bool) (W : Int) (pres : Bool) (E : List Int) (mv tv : Value) (e2 e1 : Option Value) : Prop where
  by_ : w.cell? ⟨rs, 2, none⟩ = some mv
  ref_ : w.cell? ⟨ref, 0, none⟩ = some (.int .u64 W)
  tsh : w.cell? ⟨t, 52, none⟩ = some tv
  two : Two w tb tb2
  mf : MF w tb tb2 s e2 e1 mv
  sh1 : shd = true → ∃ g c, tv = .slice (some ⟨g, 0, none⟩) 1 c ∧ w.cell? ⟨g, 0, none⟩ = some (.pointer (some ⟨tb, 0, none⟩)) ∧ w.cell? ⟨g, 1, none⟩ = some (.int .u32 s)
  sh0 : shd = false → tv = .slice none 0 0
  p1 : pres = true → ∃ a l c, e1 = some (.slice a l c) ∧ SlAt w a l E
  p0 : pres = false → e1 = none
  m1 : a8 = true → ∃ g c, e2 = some (.slice (some ⟨g, 0, none⟩) 1 c) ∧ w.cell? ⟨g, 0, none⟩ = some (.int .u64 7)
  m0 : a8 = false → e2 = none

theorem Fin.chk (h : Fin w0 w' rs ref t tb tb2 rb r2b s tid a8 o O shd W pres E) : ∃ mv tv e2 e1, Chk w' rs ref t tb tb2 s a8 shd W pres E mv tv e2 e1 := by
  obtain ⟨_, e2, ⟨⟨mv, tv, e1, h1, h2, h3, h4, h5⟩, _, _⟩, h6, h7⟩ := h
  refine ⟨mv, tv, e2, e1, h1.c_by, h1.c_ref, h1.c_tsh, h1.two, h1.mf, fun hs => ?_, h3, fun hp => ?_, h5, fun ha => ?_, h7⟩
  · obtain ⟨q1, ⟨_, q0⟩ | ⟨g, cap, cur, rfl, _, q3, _, _, q6, q7⟩⟩ := h2 hs
    · omega
    · have e0 : (cur.toList.take (1 * 2))[0]? = some (.pointer (some ⟨tb, 0, none⟩)) := by rw [q7]; rfl
      have e1' : (cur.toList.take (1 * 2))[1]? = some (.int .u32 s) := by rw [q7]; rfl
      rw [List.getElem?_take_of_lt (by omega)] at e0 e1'
      exact ⟨g, cap, rfl, by simpa [World.cell?, q3] using e0, by simpa [World.cell?, q3] using e1'⟩
  · obtain ⟨v, k, e, ho⟩ := h4 hp
    obtain ⟨a, l, c, rfl, hs, _⟩ := own_sl ho
    exact ⟨a, l, c, e, hs⟩
  · obtain ⟨v, e, ho⟩ := h6 ha
    obtain ⟨q1, ⟨_, q0⟩ | ⟨g, cap, cur, rfl, _, q3, _, _, q6, q7⟩⟩ := ho
    · omega
    · have e0 : (cur.toList.take (1 * 1))[0]? = some (.int .u64 7) := by rw [q7]; rfl
      rw [List.getElem?_take_of_lt (by omega)] at e0
      exact ⟨g, cap, e, by simpa [World.cell?, q3] using e0⟩

theorem len_map {w : World} {e2 e1 : Option Value} {mv : Value} (h : MF w tb tb2 s e2 e1 mv) : (Builtin.len_ #[104] 3 #[mv]).run Yba.prog w = .ok (.int .i64 ((e2.toList.length + e1.toList.length : Nat) : Int)) w := by
  cases h with
  | nil a b =>
    subst a b
    simp [Builtin.len_, goInt]
  | made m es ck hb he =>
    have hl := ents_len he
    have hg : (getObj m).run Yba.prog w = .ok (.map es ck) w := by simp [getObj, Sem.run, hb]
    simp [Builtin.len_, hg, hl, goInt]
/-- len of the map. -/
theorem mf_len {w : World} {e2 e1 : Option Value} {mv : Value} (h : MF w tb tb2 s e2 e1 mv) : (mv = .map none ∧ e2 = none ∧ e1 = none) ∨ ∃ m es ck, mv = .map (some m) ∧ w.heap[m]? = some (.map es ck) ∧ es.size = e2.toList.length + e1.toList.length := by
  cases h with
  | nil a b => exact .inl ⟨rfl, a, b⟩
  | made m es ck hb he => exact .inr ⟨m, es, ck, rfl, hb, ents_len he⟩
end
end Go.Proofs.Ybulkdlw.Claim
