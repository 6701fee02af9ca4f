/- The map keyed by a row: what a look-up and a store at one of the two keys does. -/
import Derived.Test.YbulkdlwClaimA
import Derived.MapKept
import Derived.LaidEql
import Derived.Laws.StructEq
import Derived.Maps.AppendAt
namespace Go.Proofs.Ybulkdlw.Claim
open Go.RowKit

def kv (tb : Nat) (s : Int) : Value := .agg #[.pointer (some ⟨tb, 0, none⟩), .int .u32 s]

theorem fields102 : Yba.prog.fieldsOf 102 = #[{ name := "tb", type := 27, offset := 0, embedded := false, tag := "", pkgPath := "example.com/snapline/snapline/internal/engine", byteOffset := 0 }, { name := "s", type := 100, offset := 1, embedded := false, tag := "", pkgPath := "example.com/snapline/snapline/internal/engine", byteOffset := 8 }] := by kernel_rfl
theorem stood102 : Yba.prog.stoodInHeld 102 = false := by kernel_rfl

theorem eq_same_d (d tb : Nat) (s : Int) (w : World) : (Op.equalIn (d + 1 + 1) 102 (kv tb s) (kv tb s)).run Yba.prog w = .ok true w := by
  unfold kv
  rw [run_equalIn_struct w (d + 1) 102 _ _ (by rw [fields102]; exact Yba.underlying102) stood102, fields102]
  simp [Op.eqFields, part, Yba.isAgg27, Yba.isAgg100, Op.equalIn, run_underlying Yba.underlying27, run_underlying Yba.underlying100, Yba.sizeOf99, run_sameAddr_same]
theorem eq_same (tb : Nat) (s : Int) (w : World) : (Op.equal 102 (kv tb s) (kv tb s)).run Yba.prog w = .ok true w := eq_same_d 9998 tb s w

theorem eq_other_d (d tb tb2 : Nat) (s : Int) (w : World) (hne : tb ≠ tb2) {ca cb : Array Value} {ta t2 : TypeId} (h1 : w.heap[tb]? = some (.cells ca ta (0, 0))) (h2 : w.heap[tb2]? = some (.cells cb t2 (0, 0))) :
    (Op.equalIn (d + 1 + 1) 102 (kv tb s) (kv tb2 s)).run Yba.prog w = .ok false w := by
  unfold kv
  rw [run_equalIn_struct w (d + 1) 102 _ _ (by rw [fields102]; exact Yba.underlying102) stood102, fields102]
  have hs := run_sameAddr_other (P := Yba.prog) w (a := ⟨tb, 0, none⟩) (b := ⟨tb2, 0, none⟩) (by intro e; cases e; exact hne rfl) h1 h2
  simp [Op.eqFields, part, Yba.isAgg27, Yba.isAgg100, Op.equalIn, run_underlying Yba.underlying27, run_underlying Yba.underlying100, Yba.sizeOf99, hs]
theorem eq_other (tb tb2 : Nat) (s : Int) (w : World) (hne : tb ≠ tb2) {ca cb : Array Value} {ta t2 : TypeId} (h1 : w.heap[tb]? = some (.cells ca ta (0, 0))) (h2 : w.heap[tb2]? = some (.cells cb t2 (0, 0))) :
    (Op.equal 102 (kv tb s) (kv tb2 s)).run Yba.prog w = .ok false w := eq_other_d 9998 tb tb2 s w hne h1 h2

theorem check_kv_d (d : Nat) (b : Bool) (tb : Nat) (s : Int) (w : World) : (Instr.checkKey b (d + 1 + 1) 102 (kv tb s)).run Yba.prog w = .ok () w := by
  unfold kv
  simp [Instr.checkKey, run_underlying Yba.underlying102, run_underlying Yba.underlying27, run_underlying Yba.underlying100, part, Yba.isAgg27, Yba.isAgg100]
theorem check_kv (b : Bool) (tb : Nat) (s : Int) (w : World) : (Instr.checkKey b 10000 102 (kv tb s)).run Yba.prog w = .ok () w := check_kv_d 9998 b tb s w

/-- The entries: r2's (if there), then r's (if there). -/
def Ents (tb tb2 : Nat) (s : Int) (e2 e1 : Option Value) (es : List MapEntry) : Prop :=
  es.map (fun e => (e.key, e.val)) = e2.toList.map (fun v => (kv tb2 s, v)) ++ e1.toList.map (fun v => (kv tb s, v))

structure Two (w : World) (tb tb2 : Nat) : Prop where
  ne : tb ≠ tb2
  a : ∃ c, w.heap[tb]? = some (.cells c 99 (0, 0))
  b : ∃ c, w.heap[tb2]? = some (.cells c 99 (0, 0))

theorem find_kv1 (tb tb2 : Nat) (s : Int) (e2 e1 : Option Value) (es : List MapEntry) (w : World) (h2 : Two w tb tb2) (he : Ents tb tb2 s e2 e1 es) :
    (Instr.findKey 102 (kv tb s) es).run Yba.prog w = .ok (e1.map fun v => (e2.toList.length, v)) w := by
  obtain ⟨c1, h1⟩ := h2.a
  obtain ⟨c2, h2'⟩ := h2.b
  have ho := eq_other tb tb2 s w h2.ne h1 h2'
  have hs := eq_same tb s w
  unfold Ents at he
  cases e2 with
  | none =>
    cases e1 with
    | none => simp at he; subst he; simp [Instr.findKey, run_underlying Yba.underlying102, Instr.findNow]
    | some v =>
      simp at he
      match es, he with
      | [x], he =>
        simp at he
        obtain ⟨hk, hv⟩ := he
        simp [Instr.findKey, run_underlying Yba.underlying102, Instr.findNow, Instr.sameNow, Instr.findAsking, hk, hv, hs]
  | some u =>
    cases e1 with
    | none =>
      simp at he
      match es, he with
      | [x], he =>
        simp at he
        obtain ⟨hk, hv⟩ := he
        simp [Instr.findKey, run_underlying Yba.underlying102, Instr.findNow, Instr.sameNow, Instr.findAsking, hk, hv, ho]
    | some v =>
      obtain ⟨x, l, rfl, hx, hl⟩ := List.map_eq_cons_iff.1 (show es.map _ = (kv tb2 s, u) :: [(kv tb s, v)] from he)
      obtain ⟨y, l', rfl, hy, hl'⟩ := List.map_eq_cons_iff.1 hl
      obtain rfl := List.map_eq_nil_iff.1 hl'
      obtain ⟨hk, hv⟩ := Prod.mk.inj hx
      obtain ⟨hk', hv'⟩ := Prod.mk.inj hy
      simp [Instr.findKey, run_underlying Yba.underlying102, Instr.findNow, Instr.sameNow, Instr.findAsking, hk, hv, hk', hv', ho, hs]

theorem find_kv2 (tb tb2 : Nat) (s : Int) (e2 e1 : Option Value) (es : List MapEntry) (w : World) (h2 : Two w tb tb2) (he : Ents tb tb2 s e2 e1 es) :
    (Instr.findKey 102 (kv tb2 s) es).run Yba.prog w = .ok (e2.map fun v => (0, v)) w := by
  obtain ⟨c1, h1⟩ := h2.a
  obtain ⟨c2, h2'⟩ := h2.b
  have ho := eq_other tb2 tb s w h2.ne.symm h2' h1
  have hs := eq_same tb2 s w
  unfold Ents at he
  cases e2 with
  | none =>
    cases e1 with
    | none => simp at he; subst he; simp [Instr.findKey, run_underlying Yba.underlying102, Instr.findNow]
    | some v =>
      simp at he
      match es, he with
      | [x], he =>
        simp at he
        obtain ⟨hk, hv⟩ := he
        simp [Instr.findKey, run_underlying Yba.underlying102, Instr.findNow, Instr.sameNow, Instr.findAsking, hk, hv, ho]
  | some u =>
    cases e1 with
    | none =>
      simp at he
      match es, he with
      | [x], he =>
        simp at he
        obtain ⟨hk, hv⟩ := he
        simp [Instr.findKey, run_underlying Yba.underlying102, Instr.findNow, Instr.sameNow, Instr.findAsking, hk, hv, hs]
    | some v =>
      obtain ⟨x, l, rfl, hx, hl⟩ := List.map_eq_cons_iff.1 (show es.map _ = (kv tb2 s, u) :: [(kv tb s, v)] from he)
      obtain ⟨y, l', rfl, hy, hl'⟩ := List.map_eq_cons_iff.1 hl
      obtain rfl := List.map_eq_nil_iff.1 hl'
      obtain ⟨hk, hv⟩ := Prod.mk.inj hx
      obtain ⟨hk', hv'⟩ := Prod.mk.inj hy
      simp [Instr.findKey, run_underlying Yba.underlying102, Instr.findNow, Instr.sameNow, Instr.findAsking, hk, hv, hs]

/-- What the field 'by' holds: nil and no entry, or a map with the entries. -/
inductive MF (w : World) (tb tb2 : Nat) (s : Int) (e2 e1 : Option Value) : Value → Prop
  | nil (h2 : e2 = none) (h1 : e1 = none) : MF w tb tb2 s e2 e1 (.map none)
  | made (m : Nat) (es : Array MapEntry) (ck : Nat) (hb : w.heap[m]? = some (.map es ck)) (he : Ents tb tb2 s e2 e1 es.toList) : MF w tb tb2 s e2 e1 (.map (some m))

def vOf (e : Option Value) : Value := e.getD (.slice none 0 0)

theorem lookup1 {w : World} {tb tb2 : Nat} {s : Int} {e2 e1 : Option Value} {v : Value} (h2 : Two w tb tb2) (h : MF w tb tb2 s e2 e1 v) (c : Bool) :
    (Instr.lookup 104 v (kv tb s) c).run Yba.prog w = .ok (if c then .tuple #[vOf e1, .bool e1.isSome] else vOf e1) w := by
  cases h with
  | nil h2 h1 =>
    subst h1
    have hf : (Instr.findKey 102 (kv tb s) []).run Yba.prog w = .ok none w := by simp [Instr.findKey, run_underlying Yba.underlying102, Instr.findNow]
    simp [Instr.lookup, run_underlying Yba.underlying104, check_kv, hf, Yba.zeroValue90, vOf]
  | made m es ck hb he =>
    have hg : (getObj m).run Yba.prog w = .ok (.map es ck) w := by simp [getObj, Sem.run, hb]
    have hf := find_kv1 tb tb2 s e2 e1 es.toList w h2 he
    cases e1 <;> simp [Instr.lookup, run_underlying Yba.underlying104, check_kv, hg, hf, Yba.zeroValue90, vOf]

theorem lookup2 {w : World} {tb tb2 : Nat} {s : Int} {e2 e1 : Option Value} {v : Value} (h2 : Two w tb tb2) (h : MF w tb tb2 s e2 e1 v) (c : Bool) :
    (Instr.lookup 104 v (kv tb2 s) c).run Yba.prog w = .ok (if c then .tuple #[vOf e2, .bool e2.isSome] else vOf e2) w := by
  cases h with
  | nil h2 h1 =>
    subst h2
    have hf : (Instr.findKey 102 (kv tb2 s) []).run Yba.prog w = .ok none w := by simp [Instr.findKey, run_underlying Yba.underlying102, Instr.findNow]
    simp [Instr.lookup, run_underlying Yba.underlying104, check_kv, hf, Yba.zeroValue90, vOf]
  | made m es ck hb he =>
    have hg : (getObj m).run Yba.prog w = .ok (.map es ck) w := by simp [getObj, Sem.run, hb]
    have hf := find_kv2 tb tb2 s e2 e1 es.toList w h2 he
    cases e2 <;> simp [Instr.lookup, run_underlying Yba.underlying104, check_kv, hg, hf, Yba.zeroValue90, vOf]

theorem stays_kv (tb : Nat) (s : Int) (w : World) : (Instr.keyThatStays (kv tb s) (kv tb s)).run Yba.prog w = .ok (kv tb s) w := by
  have h : Instr.sameBits 10000 (kv tb s) (kv tb s) = true := by
    show Instr.sameBits (9999 + 1) (kv tb s) (kv tb s) = true
    unfold kv
    simp [Instr.sameBits]
  simp [Instr.keyThatStays, h]

theorem modify_ents {tb tb2 : Nat} {s : Int} {e2 : Option Value} {v x : Value} {es : List MapEntry} (he : Ents tb tb2 s e2 (some v) es) :
    Ents tb tb2 s e2 (some x) (es.modify e2.toList.length fun e => { e with key := kv tb s, val := x }) ∧ (es[e2.toList.length]?).map (·.key) = some (kv tb s) := by
  unfold Ents at he ⊢
  cases e2 with
  | none =>
    obtain ⟨y, l', rfl, hy, hl'⟩ := List.map_eq_cons_iff.1 (show es.map _ = (kv tb s, v) :: [] from he)
    obtain rfl := List.map_eq_nil_iff.1 hl'
    obtain ⟨hk, hv⟩ := Prod.mk.inj hy
    simp [hk]
  | some u =>
    obtain ⟨z, l, rfl, hx, hl⟩ := List.map_eq_cons_iff.1 (show es.map _ = (kv tb2 s, u) :: [(kv tb s, v)] from he)
    obtain ⟨y, l', rfl, hy, hl'⟩ := List.map_eq_cons_iff.1 hl
    obtain rfl := List.map_eq_nil_iff.1 hl'
    obtain ⟨hk, hv⟩ := Prod.mk.inj hx
    obtain ⟨hk', hv'⟩ := Prod.mk.inj hy
    simp [hk, hv, hk', List.modify]

/-- A store at r. -/
theorem update1 {w : World} {tb tb2 : Nat} {s : Int} {e2 e1 : Option Value} {m : Nat} {es : Array MapEntry} {ck : Nat} (h2 : Two w tb tb2) (hb : w.heap[m]? = some (.map es ck)) (he : Ents tb tb2 s e2 e1 es.toList) (x : Value) :
    ∃ es' ck', (Instr.mapUpdate 104 (.map (some m)) (kv tb s) x).run Yba.prog w = .ok () { w with heap := w.heap.setIfInBounds m (.map es' ck') } ∧ Ents tb tb2 s e2 (some x) es'.toList := by
  have hf := find_kv1 tb tb2 s e2 e1 es.toList w h2 he
  have hg : (getObj m).run Yba.prog w = .ok (.map es ck) w := by simp [getObj, Sem.run, hb]
  have hst : ∀ o, (setObj m o).run Yba.prog w = .ok () { w with heap := w.heap.setIfInBounds m o } := fun o => by simp [setObj, Sem.run, hb]
  cases e1 with
  | none =>
    refine ⟨es.push { key := kv tb s, val := x, born := ck }, ck + 1, ?_, ?_⟩
    · simp [Instr.mapUpdate, run_underlying Yba.underlying104, hg, check_kv, hf, hst]
    · unfold Ents at he ⊢
      simp [he]
  | some v =>
    obtain ⟨hm, hk⟩ := modify_ents (x := x) he
    have hkey : ((es[e2.toList.length]?).map (·.key)).getD (kv tb s) = kv tb s := by
      rw [← Array.getElem?_toList, hk]; rfl
    refine ⟨es.modify e2.toList.length fun e => { e with key := kv tb s, val := x }, ck, ?_, ?_⟩
    · simp only [Instr.mapUpdate, Sem.run_bind, run_underlying Yba.underlying104, Result.andThen_ok, hg, check_kv, hf, Option.map_some, hkey, stays_kv, hst]
    · rw [Array.toList_modify]
      exact hm

/-- A store at r2, into an empty map. -/
theorem update2 {w : World} {tb tb2 : Nat} {s : Int} {m : Nat} {ck : Nat} (h2 : Two w tb tb2) (hb : w.heap[m]? = some (.map #[] ck)) (x : Value) :
    (Instr.mapUpdate 104 (.map (some m)) (kv tb2 s) x).run Yba.prog w = .ok () { w with heap := w.heap.setIfInBounds m (.map #[{ key := kv tb2 s, val := x, born := ck }] (ck + 1)) } := by
  have hf := find_kv2 tb tb2 s none none [] w h2 rfl
  have hg : (getObj m).run Yba.prog w = .ok (.map #[] ck) w := by simp [getObj, Sem.run, hb]
  have hst : ∀ o, (setObj m o).run Yba.prog w = .ok () { w with heap := w.heap.setIfInBounds m o } := fun o => by simp [setObj, Sem.run, hb]
  simp [Instr.mapUpdate, run_underlying Yba.underlying104, hg, check_kv, hf, hst]

theorem ents_len {tb tb2 : Nat} {s : Int} {e2 e1 : Option Value} {es : Array MapEntry} (he : Ents tb tb2 s e2 e1 es.toList) : es.size = e2.toList.length + e1.toList.length := by
  have := congrArg List.length he
  simpa using this
end Go.Proofs.Ybulkdlw.Claim
