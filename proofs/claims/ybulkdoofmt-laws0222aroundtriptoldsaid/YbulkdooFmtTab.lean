/- What the condition 'laid' gives the walks of this seat: the table 'profiles' in memory. -/
import Derived.Test.YbulkdooFmtRows
import Derived.WalkKit
import Derived.WalkSmall
import Derived.ProofKit
import Derived.OpenShut
import Derived.LaidMore
import Derived.Stop.Joined
import Derived.Stop.JoinedTold
import Derived.Deep.Slices
namespace Go.Proofs.YbulkdooFmt
open Go.ChangeShapes Go.WideShapes Go.ChangeAt Go.RowKit

/-- One entry of the table: code, name, cipher, key length, tag length. -/
structure Ent where
  code : Int
  name : List UInt8
  kind : Int
  klen : Int
  tlen : Int

def tab : List Ent := [
  ⟨1, [83, 82, 84, 80, 95, 65, 69, 83, 49, 50, 56, 95, 67, 77, 95, 72, 77, 65, 67, 95, 83, 72, 65, 49, 95, 56, 48], 1, 16, 10⟩,
  ⟨2, [83, 82, 84, 80, 95, 65, 69, 83, 49, 50, 56, 95, 67, 77, 95, 72, 77, 65, 67, 95, 83, 72, 65, 49, 95, 51, 50], 1, 16, 4⟩,
  ⟨5, [83, 82, 84, 80, 95, 78, 85, 76, 76, 95, 72, 77, 65, 67, 95, 83, 72, 65, 49, 95, 56, 48], 0, 16, 10⟩,
  ⟨6, [83, 82, 84, 80, 95, 78, 85, 76, 76, 95, 72, 77, 65, 67, 95, 83, 72, 65, 49, 95, 51, 50], 0, 16, 4⟩,
  ⟨7, [83, 82, 84, 80, 95, 65, 69, 65, 68, 95, 65, 69, 83, 95, 49, 50, 56, 95, 71, 67, 77], 2, 16, 16⟩,
  ⟨8, [83, 82, 84, 80, 95, 65, 69, 65, 68, 95, 65, 69, 83, 95, 50, 53, 54, 95, 71, 67, 77], 2, 32, 16⟩]

def Ent.datum {H : Type} (e : Ent) : DataW H := .agg [.lit (.int .u16 e.code), .lit (.string e.name), .lit (.int .u8 e.kind), .lit (.int .i64 e.klen), .lit (.int .i64 e.tlen)]

theorem laid_tab : (Rows.laid_example_com_hushwire_hushwire_srtp_profiles : DataW Unit) = .slice (tab.map Ent.datum) [] := rfl

def str (l : List UInt8) : ByteArray := ⟨l.toArray⟩

/-- The entry's five cells at ⟨b, o⟩. -/
def EntAt (w : World) (b o : Nat) (e : Ent) : Prop :=
  w.cell? ⟨b, o, none⟩ = some (.int .u16 e.code) ∧ w.cell? ⟨b, o + 1, none⟩ = some (.string (str e.name)) ∧ w.cell? ⟨b, o + 2, none⟩ = some (.int .u8 e.kind) ∧
  w.cell? ⟨b, o + 3, none⟩ = some (.int .i64 e.klen) ∧ w.cell? ⟨b, o + 4, none⟩ = some (.int .i64 e.tlen)

/-- The variable's cell, and the table. -/
structure TabAt (w : World) (b off cap : Nat) : Prop where
  var : w.cell? ⟨0, 0, none⟩ = some (.slice (some ⟨b, off, none⟩) 6 cap)
  cap6 : 6 ≤ cap
  capm : cap ≤ maxLen
  lt : b < w.heap.size
  pos : 0 < w.heap.size
  at_ : ∀ i e, tab[i]? = some e → EntAt w b (off + i * 5) e

theorem EntAt.below {w w' : World} {b o B : Nat} {e : Ent} (h : EntAt w b o e) (hb : Below B w w') (hlt : b < B) : EntAt w' b o e := by
  obtain ⟨h0, h1, h2, h3, h4⟩ := h
  exact ⟨(hb.cell hlt).trans h0, (hb.cell hlt).trans h1, (hb.cell hlt).trans h2, (hb.cell hlt).trans h3, (hb.cell hlt).trans h4⟩
theorem TabAt.below {w w' : World} {b off cap : Nat} (h : TabAt w b off cap) (hb : Below w.heap.size w w') : TabAt w' b off cap :=
  ⟨(hb.cell h.pos).trans h.var, h.cap6, h.capm, Nat.lt_of_lt_of_le h.lt hb.size, Nat.lt_of_lt_of_le h.pos hb.size, fun i e he => (h.at_ i e he).below hb h.lt⟩

theorem gProf : Ybaf.prog.globalNamed (Rows.lawS0222ARoundTripSpec.vars.getD 0 "") = some 0 := by kernel_rfl
theorem tProf : (Ybaf.prog.globals[0]?).map (·.type) = some 39 := by kernel_rfl
theorem cells34 : Ybaf.prog.cellsOf 34 = 5 := by kernel_rfl
theorem cells23 : Ybaf.prog.cellsOf 23 = 1 := by kernel_rfl
theorem cells9 : Ybaf.prog.cellsOf 9 = 1 := by kernel_rfl
theorem cells3 : Ybaf.prog.cellsOf 3 = 1 := by kernel_rfl
theorem cells32 : Ybaf.prog.cellsOf 32 = 1 := by kernel_rfl

/-- An entry's reading, opened: its five cells. -/
theorem ent_of_trod {H : Type} {enc : TypeId × Value → H} {w : World} {base : Nat} {sp : Nat → Bool} {held : Bool} {n : Nat} {cs : List Value} {e : Ent} {q : List MemPlace}
    (h : DataW.trod enc Ybaf.prog w base sp held n 34 cs = some (e.datum, q)) : cs = [.int .u16 e.code, .string (str e.name), .int .u8 e.kind, .int .i64 e.klen, .int .i64 e.tlen] := by
  obtain ⟨xs, m, rfl, hx, hlen, hxl, hf⟩ := DataW.trod_struct Ybaf.underlying34 h
  rw [cells34] at hlen
  match cs, hlen with
  | [c0, c1, c2, c3, c4], _ =>
  have g0 : DataW.trod enc Ybaf.prog w base sp held m 23 (([c0, c1, c2, c3, c4].drop 0).take (Ybaf.prog.cellsOf 23)) = xs[0]? := hf 0 _ rfl
  have g1 : DataW.trod enc Ybaf.prog w base sp held m 9 (([c0, c1, c2, c3, c4].drop 1).take (Ybaf.prog.cellsOf 9)) = xs[1]? := hf 1 _ rfl
  have g2 : DataW.trod enc Ybaf.prog w base sp held m 32 (([c0, c1, c2, c3, c4].drop 2).take (Ybaf.prog.cellsOf 32)) = xs[2]? := hf 2 _ rfl
  have g3 : DataW.trod enc Ybaf.prog w base sp held m 3 (([c0, c1, c2, c3, c4].drop 3).take (Ybaf.prog.cellsOf 3)) = xs[3]? := hf 3 _ rfl
  have g4 : DataW.trod enc Ybaf.prog w base sp held m 3 (([c0, c1, c2, c3, c4].drop 4).take (Ybaf.prog.cellsOf 3)) = xs[4]? := hf 4 _ rfl
  rw [cells23] at g0
  rw [cells9] at g1
  rw [cells32] at g2
  rw [cells3] at g3 g4
  match xs, hxl with
  | [x0, x1, x2, x3, x4], _ =>
  simp only [Ent.datum, Prod.mk.injEq, List.map_cons, List.map_nil, DataW.agg.injEq, List.cons.injEq] at hx
  obtain ⟨⟨e0, e1, e2, e3, e4, _⟩, _⟩ := hx
  simp at g0 g1 g2 g3 g4
  obtain ⟨k0, a0, b0, _⟩ := DataW.trod_int Ybaf.underlying23 g0
  obtain ⟨k1, a1, b1, _⟩ := DataW.trod_string Ybaf.underlying9 g1
  obtain ⟨k2, a2, b2, _⟩ := DataW.trod_int Ybaf.underlying32 g2
  obtain ⟨k3, a3, b3, _⟩ := DataW.trod_int Ybaf.underlying3 g3
  obtain ⟨k4, a4, b4, _⟩ := DataW.trod_int Ybaf.underlying3 g4
  rw [b0] at e0
  rw [b1] at e1
  rw [b2] at e2
  rw [b3] at e3
  rw [b4] at e4
  simp at e0 e1 e2 e3 e4 a0 a1 a2 a3 a4
  subst a0 a1 a2 a3 a4
  rw [e0, e1, e2, e3, e4]
  rfl

theorem tab_of_laid {W : World} (hL : laidMetH Ybaf.prog Rows.lawS0222ARoundTripRow.laid W) : ∃ b off cap, TabAt W b off cap := by
  rw [MakeChecks.laidMetH_plain _ _ _ (by kernel_rfl)] at hL
  obtain ⟨ps, ⟨g0, t0, cs0, f0, p0, q0, hg0, ht0, hv0, hd0, _, _⟩, _, _⟩ := hL
  obtain rfl := Option.some.inj (gProf.symm.trans hg0)
  obtain rfl := Option.some.inj (tProf.symm.trans ht0)
  have hd : DataW.trod _ Ybaf.prog W 0 _ _ f0 39 cs0.toList = some (.slice (tab.map Ent.datum) [], p0) := hd0
  rcases DataW.trod_slice Ybaf.underlying39 hd with ⟨_, hx⟩ | ⟨a, len, cap, elems, rest, n, _, hcs, hx, _, hl, hm, hlen, hel, _⟩
  · simp at hx
  simp only [Prod.mk.injEq, DataW.slice.injEq] at hx
  obtain ⟨⟨hmap, _⟩, _⟩ := hx
  have h6 : len = 6 := by
    have := congrArg List.length hmap
    simp only [List.length_map] at this
    rw [← hlen, ← this]
    rfl
  subst h6
  have hcell : ∀ i e, tab[i]? = some e → ∀ j, j < 5 → W.cell? ((a.add (i * 5)).add j) = [Value.int .u16 e.code, .string (str e.name), .int .u8 e.kind, .int .i64 e.klen, .int .i64 e.tlen][j]? := by
    intro i e he j hj
    have hi : i < 6 := (List.getElem?_eq_some_iff.1 he).1
    have hE := hel i hi
    rw [cells34] at hE
    have hx : (elems.map (·.1))[i]? = some e.datum := by rw [← hmap]; simp [he]
    rw [List.getElem?_map] at hx
    obtain ⟨x, hx1, hx2⟩ := Option.map_eq_some_iff.1 hx
    rw [hx1] at hE
    obtain ⟨cs', hc1, hc2⟩ := Option.bind_eq_some_iff.1 hE
    obtain ⟨d, q⟩ := x
    simp only at hx2
    subst hx2
    have := ent_of_trod hc2
    subst this
    exact (World.cells?_some hc1).2.2 j hj
  have hspot : a.spot = none := by
    have := World.cell?_spot (hcell 0 _ rfl 0 (by decide))
    simpa [Addr.add] using this
  obtain ⟨b, off, spot⟩ := a
  simp only at hspot
  subst hspot
  have hvar : W.cell? ⟨0, 0, none⟩ = some (.slice (some ⟨b, off, none⟩) 6 cap) := by
    have := World.var?_cell hg0 hv0 0
    rw [Array.eq_one_of_toList hcs] at this
    simpa using this
  have lt_of : ∀ {p : Addr} {v : Value}, W.cell? p = some v → p.block < W.heap.size := fun {p v} h => by
    rcases Nat.lt_or_ge p.block W.heap.size with h' | h'
    · exact h'
    · simp [World.cell?, Array.getElem?_eq_none h'] at h
  refine ⟨b, off, cap, hvar, hl, hm, lt_of (hcell 0 _ rfl 0 (by decide)), lt_of hvar, fun i e he => ?_⟩
  have H := hcell i e he
  simp only [Go.WideShapes.add_plain] at H
  exact ⟨H 0 (by decide), H 1 (by decide), H 2 (by decide), H 3 (by decide), H 4 (by decide)⟩

end Go.Proofs.YbulkdooFmt
