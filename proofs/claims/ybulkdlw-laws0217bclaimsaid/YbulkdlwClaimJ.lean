/- What the law wants, reckoned beside the claim. -/
import Derived.Test.YbulkdlwClaimI
namespace Go.Proofs.Ybulkdlw.Claim
open Go.RowKit

theorem info22 : (Yba.prog.info? 22).map (fun i => (i.zero, i.size, i.bytes)) = some (some (.int .u64 0), 1, 8) := by kernel_rfl

theorem Out.below {w wy : World} {B rs ref t tb tb2 : Nat} {s tid : Int} {e2 : Option Value} {o : Value} {O : List Int} {shd : Bool} {W : Int} {pres : Bool} {E : List Int} (h : Out w B rs ref t tb tb2 s tid e2 o O shd W pres E) (hb : Below w.heap.size w wy) : Out wy B rs ref t tb tb2 s tid e2 o O shd W pres E := by
  obtain ⟨⟨mv, tv, e1, h1, h2, h3, h4, h5⟩, h6, h7⟩ := h
  have gg : G B w wy := G.of_below hb h1.lt
  refine ⟨⟨mv, tv, e1, h1.below hb, fun h => own_kept rfl (h2 h) gg, h3, fun h => ?_, h5⟩, own_kept rfl h6 gg, h7⟩
  obtain ⟨v, k, e, ho⟩ := h4 h
  exact ⟨v, k, e, own_kept rfl ho gg⟩

section
variable {w0 w' wy : World} {rs ref t tb tb2 rb r2b : Nat} {s tid : Int} {a8 : Bool} {o : Value} {O : List Int} {shd : Bool} {W : Int} {pres : Bool} {E : List Int}

theorem Fin.below (h : Fin w0 w' rs ref t tb tb2 rb r2b s tid a8 o O shd W pres E) (hb : Below w'.heap.size w' wy) : Fin w0 wy rs ref t tb tb2 rb r2b s tid a8 o O shd W pres E := by
  obtain ⟨h1, e2, h2, h3, h4⟩ := h
  have gg : G w0.heap.size w' wy := G.of_below hb h1.bel.size
  refine ⟨h1.kept gg, e2, h2.below hb, fun h => ?_, h4⟩
  obtain ⟨v, e, ho⟩ := h3 h
  exact ⟨v, e, own_kept rfl ho gg⟩

structure Want (w0 wx : World) (rs ref t tb tb2 rb r2b : Nat) (s tid : Int) (a8 : Bool) (o : Value) (O : List Int) (shd : Bool) (W : Int) (pres : Bool) (E : List Int) (wa : Option Addr) (wn : Nat) (ea : Option Addr) (en : Nat) : Prop where
  fin : Fin w0 wx rs ref t tb tb2 rb r2b s tid a8 o O shd W pres E
  wo : SlAt wx wa wn O
  wnil : wa = none ↔ O = []
  en_ : SlAt wx ea en E

theorem slAt_nil (w : World) : SlAt w none 0 [] := ⟨rfl, fun h => by omega⟩
theorem own_slAt22 {w : World} {base : Nat} {sa : Option Addr} {n sc : Nat} {I : List Int} (h : w.ownsRow base 22 1 (.slice sa n sc) n (us I)) : SlAt w sa n I := by
  obtain ⟨h1, h2⟩ := h
  have hl : I.length = n := by simpa using h1
  refine ⟨hl, fun hp => ?_⟩
  rcases h2 with ⟨_, h0⟩ | ⟨g, cap, cur, r1, r2, r3, r4, r5, r6, r7⟩
  · omega
  · cases r1
    refine ⟨_, rfl, fun j hj => ?_⟩
    have e : (cur.toList.take (n * 1))[j]? = some (.int .u64 I[j]) := by rw [r7]; simp [hj]
    rw [List.getElem?_take_of_lt (by omega)] at e
    rw [Go.WideShapes.add_plain]
    simpa [World.cell?, r3] using e
theorem slAt_one (w : World) (x : Int) (ty : TypeId) : SlAt (w.alloc (.cells #[.int .u64 x] ty)) (some ⟨w.heap.size, 0, none⟩) 1 [x] := by
  refine ⟨rfl, fun _ => ⟨_, rfl, fun j hj => ?_⟩⟩
  have hj0 : j = 0 := by simpa using hj
  subst hj0
  have h := heap_alloc_new w (.cells #[.int .u64 x] ty)
  rw [Go.WideShapes.add_plain]
  unfold World.cell?
  simp only [h]
  rfl

/-- What the law's loop has gathered. -/
structure Gat2 (w4 wr : World) (o : Value) (F : List Int) : Prop where
  own : wr.ownsRow w4.heap.size 22 1 o F.length (us F)
  nil : o = .slice none 0 0 ↔ F = []
  bel : Below w4.heap.size w4 wr
theorem Gat2.step {w4 wr w1 : World} {o v' : Value} {F : List Int} {x : Int} {ob : Obj} (h : Gat2 w4 wr o F) (ho : w1.ownsRow w4.heap.size 22 1 v' (F.length + 1) (us F ++ [.int .u64 x])) (hg : (wr.alloc ob).grownBy w1 o.ownBlock) (hn : v' = .slice none 0 0 ↔ o = .slice none 0 0 ∧ 1 = 0) : Gat2 w4 w1 v' (F ++ [x]) := by
  have e : (F ++ [x]).length = F.length + 1 := by simp
  have hal : w4.heap.size ≤ (wr.alloc ob).heap.size := Nat.le_trans h.bel.size (by simp)
  refine ⟨by rw [e]; simpa using ho, ?_, (h.bel.alloc h.bel.size ob).grown hg hal (fun k hk => (h.own.lt k hk).1)⟩
  constructor
  · intro hv; have := (hn.1 hv).2; omega
  · intro hf; simp at hf
end
end Go.Proofs.Ybulkdlw.Claim
