/- Laws on copy and append for elements of three cells; list lemmas for slices.Insert. -/
import Derived.Test.YbulkdnmRows
import Derived.WalkKit
import Derived.WalkSmall
import Derived.BigQuiet
import Derived.Deep.QuietTactic
import Derived.Lib.AppendZeros
import Derived.Lib.Overlaps
import Derived.Laws.CopyOwn
import Derived.Laws.Externs
namespace Go.Proofs.Ybulkdnm.Pts
open Go.RowKit

theorem info60 : (Yba.prog.info? 60).map (fun i => (i.zero, i.size, i.bytes)) = some (some (.agg #[.int .i64 0, .int .i64 0, .slice none 0 0]), 3, 40) := by kernel_rfl

/-- copy of elements of three cells, into a row that is known whole. -/
theorem run_copy3 (w : World) (ty : TypeId) (g o dLen dCap : Nat) (a : Addr) (sLen sCap : Nat) (cur : Array Value) (t : TypeId) (cs : List Value)
    (hg : w.heap[g]? = some (.cells cur t (0, 0))) (hn : cs.length = Nat.min sLen dLen * 3)
    (hsrc : ∀ j v, cs[j]? = some v → w.cell? (a.add j) = some v) (hfit : o + cs.length ≤ cur.size) (h1 : ∀ v ∈ cs, v.oneCell' = true) :
    (Builtin.copy_ #[31, 31] ty #[.slice (some ⟨g, o, none⟩) dLen dCap, .slice (some a) sLen sCap]).run Yba.prog w =
      .ok (goInt (Nat.min sLen dLen)) (w.setRow g (cur.toList.take o ++ cs ++ cur.toList.drop (o + cs.length)).toArray) := by
  obtain ⟨i0, hi0, hz0, hz1, hz2⟩ := info_parts info60
  have hl := run_loadCells_list (P := Yba.prog) w a cs hsrc
  have hst := run_storeCells_at Yba.prog g o t cs 0 cur w hg (by simpa using hfit) h1
  simp [Builtin.copy_, run_underlying Yba.underlying31, Builtin.lenOf, Builtin.firstCells, sizeOf, typeInfo, hi0, hz1, ← hn, hl, hst]

/-- append(s[:i], make([]point, m)...) that must grow. -/
theorem run_append_zeros_grow (w : World) (ty : TypeId) (g k cap m : Nat) (olds : List Value) (ho : olds.length = k * 3) (hc : ∀ j u, olds[j]? = some u → w.cell? ((⟨g, 0, none⟩ : Addr).add j) = some u)
    (hm : 0 < m) (hgrow : cap < k + m) (hsm : k + m ≤ 100000) :
    (Builtin.append_ #[31, 3] ty #[.slice (some ⟨g, 0, none⟩) k cap, .int .i64 m]).run Yba.prog w =
      .ok (.slice (some ⟨w.heap.size, 0, none⟩) (k + m) (grownCap w (k + m) cap 60))
        (w.drew.alloc (.cells (olds.toArray ++ Builtin.zeroCells #[.int .i64 0, .int .i64 0, .slice none 0 0] m ++ Builtin.zeroCells #[.int .i64 0, .int .i64 0, .slice none 0 0] (grownCap w (k + m) cap 60 - (k + m))) 60)) := by
  obtain ⟨i0, hi0, hz0, hz1, hz2⟩ := info_parts info60
  have hl := run_firstCells_some (P := Yba.prog) w.drew 3 k ⟨g, 0, none⟩ k cap olds ho hc
  have hw : IntKind.i64.wrap (m : Int) = m := by rw [IntKind.wrap_i64]; omega
  have e1 : ¬ (m : Int) < 0 := by omega
  have e2 : ¬ (281474976710656 < (m : Int) * 40) := by omega
  have e3 : ¬ (k + m ≤ cap) := by omega
  have e4 : ¬ (9223372036854775807 < ((k : Int) + (m : Int))) := by omega
  have e6 : ¬ m = 0 := by omega
  have e5 : ¬ (281474976710656 < Builtin.nextslicecap (k + m) cap * 40) := by
    have := growslice_fits (need := k + m) (old := cap) (bytes := 40) hgrow (by omega)
    omega
  simp [Builtin.append_, run_underlying Yba.underlying31, run_underlying Yba.underlying3, sizeOf, typeInfo, zeroValue, hi0, hz0, hz1, hz2, asInt, asIntOf, hw, e1, e2, e3, e4, e5, Question.forced, hl, newRow, grownCap]
  rw [if_neg (by omega)]
  rfl

theorem wpList_copy_run (w : World) {ops : Array Oper} {rest : List Oper} {o : Oper} {a : Act} {Q : Exit → Act → World → Prop} (hgd : o.guard = none) (d x : Operand) (t t' : TypeId)
    (ho : o.op = .call { callee := .builtin .copy, args := #[d, x], argTypes := #[t, t'] }) (v u : Value) (hd : a.eval d = v) (hs : a.eval x = u) {v' : Value} {w' : World}
    (hr : (Builtin.copy_ #[t, t'] o.type #[v, u]).run Yba.prog w = .ok v' w') (h : wpList Yba.prog ops Q rest (a.put o.dst v') w') : wpList Yba.prog ops Q (o :: rest) a w :=
  wpList_plain hgd fun _ hK => by
    unfold Oper.wp execOp
    simp only [ho, resolve, invoke, builtin, Sem.run_bind, Sem.run_pure, Result.andThen_ok, List.map_toArray, List.map_cons, List.map_nil, hd, hs, hr]
    exact hK _ _ h
theorem step_copy_run {ops : Array Oper} {o : Oper} {a : Act} {w : World} {K : Act → World → Prop} {Q : Exit → Act → World → Prop} {E : Prop}
    (hg : o.guard = none) (d x : Operand) (dT sT : TypeId) (hop : o.op = Op.call { callee := Callee.builtin Builtin.copy, args := #[d, x], argTypes := #[dT, sT] })
    (v u : Value) (hd : a.eval d = v) (hx : a.eval x = u) {v' : Value} {w' : World} (hr : (Builtin.copy_ #[dT, sT] o.type #[v, u]).run Yba.prog w = .ok v' w') (hK : K (a.put o.dst v') w') :
    if Region.wanted o (yielded ops a.tmps) = true then Oper.wp Yba.prog o a w K Q else E := by
  have hw : Region.wanted o (yielded ops a.tmps) = true := by simp [Region.wanted, hg]
  rw [if_pos hw]
  unfold Oper.wp
  simp [execOp, hop, resolve, invoke, builtin, hd, hx, hr, Result.andThen]
  exact hK

theorem lists_c (cur X1 X2 V : List Value) (i n : Nat) (h1 : X1.length = i * 3) (hV : V.length = 3) (h2 : X2.length = (n - i) * 3) (hi : i ≤ n) (hc : cur.take (n * 3) = X1 ++ X2) (hl : (n + 1) * 3 ≤ cur.length) :
    (((cur.take ((i + 1) * 3) ++ X2 ++ cur.drop ((i + 1) * 3 + X2.length)).take (i * 3) ++ V ++ (cur.take ((i + 1) * 3) ++ X2 ++ cur.drop ((i + 1) * 3 + X2.length)).drop (i * 3 + V.length))).take ((n + 1) * 3) = X1 ++ V ++ X2 := by
  have e1 : cur.take (i * 3) = X1 := by
    have : cur.take (i * 3) = (cur.take (n * 3)).take (i * 3) := by rw [List.take_take]; congr 1; omega
    rw [this, hc, List.take_left' h1]
  have lt : (cur.take ((i + 1) * 3)).length = (i + 1) * 3 := by rw [List.length_take]; omega
  have e2 : (cur.take ((i + 1) * 3) ++ X2 ++ cur.drop ((i + 1) * 3 + X2.length)).take (i * 3) = X1 := by
    rw [List.append_assoc, List.take_append_of_le_length (by omega), List.take_take]
    rw [show min (i * 3) ((i + 1) * 3) = i * 3 by omega, e1]
  have e3 : (cur.take ((i + 1) * 3) ++ X2 ++ cur.drop ((i + 1) * 3 + X2.length)).drop (i * 3 + V.length) = X2 ++ cur.drop ((i + 1) * 3 + X2.length) := by
    rw [List.append_assoc, show i * 3 + V.length = (i + 1) * 3 by omega, List.drop_left' lt]
  rw [e2, e3, ← List.append_assoc]
  exact List.take_left' (by simp; omega)
theorem lists_b (Z X1 X2 V : List Value) (i n : Nat) (h1 : X1.length = i * 3) (hV : V.length = 3) (h2 : X2.length = (n - i) * 3) (hi : i ≤ n) (hc : Z.take (i * 3) = X1) :
    ((Z.take (i * 3) ++ V ++ Z.drop (i * 3 + V.length)).take ((i + 1) * 3) ++ X2 ++ (Z.take (i * 3) ++ V ++ Z.drop (i * 3 + V.length)).drop ((i + 1) * 3 + X2.length)).take ((n + 1) * 3) = X1 ++ V ++ X2 := by
  rw [hc]
  have e2 : (X1 ++ V ++ Z.drop (i * 3 + V.length)).take ((i + 1) * 3) = X1 ++ V := List.take_left' (by simp; omega)
  rw [e2]
  exact List.take_left' (by simp; omega)
end Go.Proofs.Ybulkdnm.Pts
