/- zzs0222cencode: the bytes that it lays. -/
import Derived.Test.YbulkdooCertD
import Derived.Deep.RegionLaw
namespace Go.Proofs.Ybulkdoo.Cert
open Go.RowKit

/-- A slice of integers that came in: zs are its elements. -/
structure SlAt (k : IntKind) (w : World) (a : Option Addr) (len cap : Nat) (zs : List Int) : Prop where
  hl : zs.length = len
  none_ : a = none → len = 0 ∧ cap = 0
  cells : ∀ ad, a = some ad → ∀ j u, (zs.map (Value.int k))[j]? = some u → w.cell? (ad.add j) = some u

theorem SlAt.below {k : IntKind} {w w' : World} {a : Option Addr} {len cap : Nat} {zs : List Int} (h : SlAt k w a len cap zs) (hb : Below w.heap.size w w') : SlAt k w' a len cap zs := by
  refine ⟨h.hl, h.none_, fun ad ha j u hu => ?_⟩
  have hc := h.cells ad ha j u hu
  have hlt : (ad.add j).block < w.heap.size := by
    rcases Nat.lt_or_ge (ad.add j).block w.heap.size with h' | h'
    · exact h'
    · simp [World.cell?, Array.getElem?_eq_none h'] at hc
  exact (hb.cell hlt).trans hc

theorem info5 : (Yba.prog.info? 5).map (fun i => (i.zero, i.size, i.bytes)) = some (some (.int .u8 0), 1, 1) := by kernel_rfl

theorem cells_new {w : World} (zs : List Int) : ∀ j u, (zs.map (Value.int .u8))[j]? = some u → (w.alloc (.cells (zs.map (Value.int .u8)).toArray 5)).cell? ((⟨w.heap.size, 0, none⟩ : Addr).add j) = some u := by
  intro j u hu
  rw [Go.WideShapes.add_plain]
  simp only [World.cell?, heap_alloc_new]
  simpa using hu

theorem cells_newd {w : World} (zs : List Int) : ∀ j u, (zs.map (Value.int .u8))[j]? = some u → (w.alloc (.cells (zs.map (Value.int .u8)).toArray 5)).drew.cell? ((⟨w.heap.size, 0, none⟩ : Addr).add j) = some u :=
  cells_new zs

/-- What stands behind each append: the row owned, old memory as it was. -/
structure St (w w' : World) (N n : Nat) (zs : List Int) : Prop where
  len : zs.length = n
  own : w'.ownsRow w.heap.size 5 1 (.slice (some ⟨w.heap.size, 0, none⟩) n N) n (zs.map (Value.int .u8))
  bel : Below w.heap.size w w'

theorem st_make {w w1 : World} {N : Nat} (h : w1.ownsRow w.heap.size 5 1 (.slice (some ⟨w.heap.size, 0, none⟩) 0 N) 0 []) (h1 : w.grownBy w1 none) : St w w1 N 0 [] :=
  ⟨rfl, h, below_of_none h1⟩
theorem St.step {w w1 w2 : World} {N n m : Nat} {zs : List Int} (xs : List Int) (h0 : St w w1 N n zs) (h : w2.ownsRow w.heap.size 5 1 (.slice (some ⟨w.heap.size, 0, none⟩) (n + m) N) (n + m) (zs.map (Value.int .u8) ++ xs.map (Value.int .u8)))
    (hx : xs.length = m) (h2 : w1.grownBy w2 (some w.heap.size)) : St w w2 N (n + m) (zs ++ xs) :=
  ⟨by simp [h0.len, hx], by rw [List.map_append]; exact h, h0.bel.trans (below_grown h2 (Nat.le_refl _) h0.bel.size)⟩
theorem St.alloc {w w1 : World} {N n : Nat} {zs : List Int} (h0 : St w w1 N n zs) (o : Obj) : St w (w1.alloc o) N n zs :=
  ⟨h0.len, h0.own.alloc o, h0.bel.alloc h0.bel.size o⟩
theorem St.drew {w w1 : World} {N n : Nat} {zs : List Int} (h0 : St w w1 N n zs) : St w w1.drew N n zs :=
  ⟨h0.len, h0.own.drew, h0.bel.drew⟩

/-- append WITHIN THE CAPACITY, as one step of a region that draws. -/
theorem step_append_fits {P : Program} {ops : Array Oper} {o : Oper} {a : Act} {w : World} {K : Act → World → Prop} {Q : Exit → Act → World → Prop} {E : Prop}
    (hg : o.guard = none) (s x : Operand) (t : TypeId) (hop : o.op = Op.call { callee := Callee.builtin Builtin.append, args := #[s, x], argTypes := #[t, t] })
    (base : Nat) (e : TypeId) (i : TypeInfo) (size : Nat) (h1 : P.underlying t = some (.slice e)) (h2 : P.info? e = some i) (h4 : i.size = size)
    (g k cap : Nat) (xs : List Value) (hs : a.eval s = .slice (some ⟨g, 0, none⟩) k cap) (hown : w.ownsRow base e size (.slice (some ⟨g, 0, none⟩) k cap) k xs) (ad : Addr) (m c : Nat) (news : List Value) (hx : a.eval x = .slice (some ad) m c) (hn : news.length = m * size)
    (hc : ∀ j u, news[j]? = some u → w.cell? (ad.add j) = some u) (h1c : ∀ u ∈ news, u.oneCell' = true) (b1 : k + m ≤ cap)
    (hK : ∀ w', w'.ownsRow base e size (.slice (some ⟨g, 0, none⟩) (k + m) cap) (k + m) (xs ++ news) → w.grownBy w' (some g) → K (a.put o.dst (.slice (some ⟨g, 0, none⟩) (k + m) cap)) w') :
    if Region.wanted o (yielded ops a.tmps) = true then Oper.wp P o a w K Q else E := by
  have hw : Region.wanted o (yielded ops a.tmps) = true := by simp [Region.wanted, hg]
  rw [if_pos hw]
  obtain ⟨w', hrun, r1, r2⟩ := run_append_fits (P := P) w base t o.type e i size h1 h2 h4 g k cap xs hown ad m c news hn hc h1c b1
  unfold Oper.wp
  simp [execOp, hop, resolve, invoke, builtin, hs, hx, hrun, Result.andThen]
  exact hK w' r1 r2

def pre (C : List Int) (ls : Nat) : List Int := (C.length : Int) :: (C ++ [2 * (ls : Int) / 256, 2 * (ls : Int) % 256])

theorem st_start {w w4 : World} {N lc ls : Nat} {C S : List Int} (h : St w w4 N (0 + 1 + lc + 2) ([] ++ [(lc : Int)] ++ C ++ [2 * (ls : Int) / 256, 2 * (ls : Int) % 256])) (hl : C.length = lc) : St w w4 N (1 + lc + 2 + 2 * 0) (pre C ls ++ enc16 (S.take 0)) := by
  subst hl
  simpa [pre, enc16] using h

theorem SlAt.at_ {k : IntKind} {w : World} {a : Option Addr} {len cap : Nat} {zs : List Int} (h : SlAt k w a len cap zs) (hp : 0 < len) :
    ∃ b off, a = some ⟨b, off, none⟩ ∧ ∀ w', Below w.heap.size w w' → ∀ j, (hj : j < len) → ∃ x, x = zs[j]'(by rw [h.hl]; exact hj) ∧ w'.cell? ⟨b, off + j, none⟩ = some (.int k x) ∧ b < w.heap.size := by
  cases a with
  | none => have := (h.none_ rfl).1; omega
  | some ad =>
    have hc : ∀ j, (hj : j < len) → w.cell? (ad.add j) = some (.int k (zs[j]'(by rw [h.hl]; exact hj))) := fun j hj => h.cells ad rfl j _ (by simp [h.hl, hj])
    obtain ⟨b, off, spot⟩ := ad
    have hspot : spot = none := by simpa [Addr.add] using World.cell?_spot (hc 0 hp)
    subst hspot
    refine ⟨b, off, rfl, fun w' hb j hj => ⟨_, rfl, ?_⟩⟩
    have h0 := hc j hj
    rw [Go.WideShapes.add_plain] at h0
    have hlt : b < w.heap.size := by
      rcases Nat.lt_or_ge b w.heap.size with h' | h'
      · exact h'
      · simp [World.cell?, Array.getElem?_eq_none h'] at h0
    exact ⟨(hb.cell hlt).trans h0, hlt⟩

theorem st_next {w w5 : World} {N n k ls : Nat} {C S : List Int} {x : Int} {hk : k < S.length} (h : St w w5 N n (pre C ls ++ enc16 (S.take k) ++ [x / 256, x % 256])) (hx : x = S[k]) : St w w5 N n (pre C ls ++ enc16 (S.take (k + 1))) := by
  have e : enc16 (S.take (k + 1)) = enc16 (S.take k) ++ [x / 256, x % 256] := by
    rw [List.take_succ_eq_append_getElem hk, ← hx]
    simp [enc16]
  rw [e, ← List.append_assoc]
  exact h
theorem st_all {w w5 : World} {N n ls : Nat} {C S : List Int} (h : St w w5 N n (pre C ls ++ enc16 (S.take ls))) (hx : S.length = ls) : St w w5 N n (pre C ls ++ enc16 S) := by
  rwa [List.take_of_length_le (by omega)] at h
theorem body_eq (C S A t : List Int) (ls la : Nat) (h1 : S.length = ls) (h2 : A.length = la) : body C S A t = pre C ls ++ enc16 S ++ [(la : Int) / 256, (la : Int) % 256] ++ A ++ t := by
  subst h1 h2
  simp [body, pre]

set_option maxRecDepth 100000 in
theorem encode_any (ac ax aa : Option Addr) (lc cc ls cs la ca : Nat) (t : Bool) (C S A : List Int) (w : World) (hC : SlAt .u8 w ac lc cc C) (hS : SlAt .u16 w ax ls cs S) (hA : SlAt .u8 w aa la ca A)
    (lC : lc ≤ 255) (lS : ls ≤ 4096) (lA : la ≤ 4096) (bS : ∀ x ∈ S, 0 ≤ x ∧ x ≤ 65535) :
    Calls Yba.prog 11 #[.slice ac lc cc, .slice ax ls cs, .slice aa la ca, .bool t] w fun e w' => ∃ g n cap, e = .returned (.slice (some ⟨g, 0, none⟩) n cap) ∧
      w'.ownsRow w.heap.size 5 1 (.slice (some ⟨g, 0, none⟩) n cap) n ((body C S A (if t then [0] else [])).map (Value.int .u8)) ∧ Below w.heap.size w w' := by
  obtain ⟨i0, hi0, hz0, hz1, hz2⟩ := info_parts info5
  have HC : Hid _ := hC
  have HS : Hid _ := hS
  have HA : Hid _ := hA
  clear hC hS hA
  obtain ⟨N, hN⟩ : ∃ N, N = 1 + lc + 2 + 2 * ls + 2 + la + 1 := ⟨_, rfl⟩
  have HN : Hid _ := hN
  have hN1 : 1 + lc + 2 + 2 * ls + 2 + la + 1 ≤ N := by omega
  have hN2 : N ≤ 12700 := by omega
  clear hN
  have bm : 0 ≤ 2 * (ls : Int) ∧ 2 * (ls : Int) ≤ 8192 := by omega
  go_enter Yba.func11, Yba.ntmps11
  go_wp2_with (first
    | (at_make; refine wpList_make_own _ rfl (.const (.int .i64 0)) (.tmp 24) 36 rfl w.heap.size 5 i0 (.int .u8 0) 1 Yba.underlying36 hi0 hz0 hz1 .i64 .i64 _ N rfl rfl (by have := HN.out; omega) (by rw [hz2]; omega) (by unfold maxLen; omega) (Nat.le_refl _) ?_; intro w1 hown1 hgr1; have H1 : Hid _ := st_make hown1 hgr1; clear hown1 hgr1)
    | (at_builtin; refine wpList_append_fits _ rfl (.tmp 26) (.tmp 30) 36 rfl w.heap.size 5 i0 1 Yba.underlying36 hi0 hz1 w.heap.size 0 N [] rfl (H1.out.alloc _).own ⟨w1.heap.size, 0, none⟩ 1 1 ([(lc : Int)].map (Value.int .u8)) rfl rfl (cells_new [(lc : Int)]) (ints_oneCell _ _) (by omega) ?_; intro w2 hown2 hgr2; have H2 : Hid _ := (H1.out.alloc _).step [(lc : Int)] hown2 rfl hgr2; clear hown2 hgr2)
    | (at_builtin; refine wpList_append_fits_any _ rfl (.tmp 32) (.tmp 33) 36 rfl w.heap.size 5 i0 1 Yba.underlying36 hi0 hz1 w.heap.size 1 N ([(lc : Int)].map (Value.int .u8)) rfl H2.out.own ac lc cc (C.map (Value.int .u8)) rfl (by simp [HC.out.hl]) HC.out.none_ (HC.out.below H2.out.bel).cells (ints_oneCell _ _) (by omega) ?_; intro w3 hown3 hgr3; have H3 : Hid _ := H2.out.step C hown3 HC.out.hl hgr3; clear hown3 hgr3)
    | (at_builtin; refine wpList_append_fits _ rfl (.tmp 38) (.tmp 44) 36 rfl w.heap.size 5 i0 1 Yba.underlying36 hi0 hz1 w.heap.size (1 + lc) N (([(lc : Int)] ++ C).map (Value.int .u8)) rfl (H3.out.alloc _).own ⟨w3.heap.size, 0, none⟩ 2 2 ([2 * (ls : Int) / 256, 2 * (ls : Int) % 256].map (Value.int .u8)) rfl rfl (cells_new [2 * (ls : Int) / 256, 2 * (ls : Int) % 256]) (ints_oneCell _ _) (by omega) ?_; intro w4 hown4 hgr4; have H4 : Hid _ := (H3.out.alloc _).step [2 * (ls : Int) / 256, 2 * (ls : Int) % 256] hown4 rfl hgr4; clear hown4 hgr4))
  go_loopw [9, 11] (fun v i wr => ∃ k : Nat, k ≤ ls ∧ i = .int .i64 k ∧ v = .slice (some ⟨w.heap.size, 0, none⟩) (1 + lc + 2 + 2 * k) N ∧ Hid (St w wr N (1 + lc + 2 + 2 * k) (pre C ls ++ enc16 (S.take k)))) (fun _ i _ => ls - (intOf i).toNat)
  case atStart => exact ⟨0, Nat.zero_le _, rfl, rfl, st_start H4.out HC.out.hl⟩
  case round =>
    obtain ⟨k, hk, rfl, rfl, hR⟩ := hrel
    by_cases hlt : k < ls
    · obtain ⟨b, off, rfl, hcell⟩ := HS.out.at_ (by omega)
      have hx := (HS.out.below hR.out.bel)
      obtain ⟨x, hx1, hx2, hx3⟩ := hcell wr hR.out.bel k hlt
      have bx := bS x (by rw [hx1]; exact List.getElem_mem _)
      obtain ⟨bx0, bx1⟩ := bx
      have HX : Hid _ := hx1
      have hw1 : IntKind.u8.wrap (x / 256) = x / 256 := IntWalk.u8_in _ (by omega)
      have hw2 : IntKind.u8.wrap x = x % 256 := by rw [IntKind.wrap_u8]
      have hlt' : (k : Int) < (ls : Int) := by omega
      have hxl : b < wr.heap.size := by
        rcases Nat.lt_or_ge b wr.heap.size with h' | h'
        · exact h'
        · simp [World.cell?, Array.getElem?_eq_none h'] at hx2
      clear hcell hx hx1 hx3
      go_wp2_with fail
      go_region_law (refine step_append_fits rfl (.tmp 52) (.tmp 64) 36 rfl w.heap.size 5 i0 1 Yba.underlying36 hi0 hz1 w.heap.size (1 + lc + 2 + 2 * k) N ((pre C ls ++ enc16 (S.take k)).map (Value.int .u8)) rfl (hR.out.alloc _).drew.own ⟨wr.heap.size, 0, none⟩ 2 2 ([x / 256, x % 256].map (Value.int .u8)) rfl rfl (cells_newd [x / 256, x % 256]) (ints_oneCell _ _) (by omega) ?_; intro w5 hown5 hgr5; have H5 : Hid _ := (hR.out.alloc _).drew.step [x / 256, x % 256] hown5 rfl hgr5; clear hown5 hgr5)
      all_goals
        have H6 : Hid _ := st_next H5.out HX.out
        clear H5
        go_wp2_with fail
        go_roundw
        case rel => exact ⟨k + 1, by omega, by go_num, by rw [show 1 + lc + 2 + 2 * (k + 1) = 1 + lc + 2 + 2 * k + 2 from by omega], H6.out⟩
        case measure => simp [intOf]; omega
    · obtain rfl : k = ls := by omega
      have H5 : Hid _ := hR.out
      have ht : St w wr N (1 + lc + 2 + 2 * k) (pre C k ++ enc16 S) := st_all hR.out HS.out.hl
      have HT : Hid _ := ht
      clear ht
      cases t
      all_goals
        go_wp2_with (first
          | (at_builtin; refine wpList_append_fits _ rfl (.tmp 66) (.tmp 74) 36 rfl w.heap.size 5 i0 1 Yba.underlying36 hi0 hz1 w.heap.size (1 + lc + 2 + 2 * k) N ((pre C k ++ enc16 S).map (Value.int .u8)) rfl (HT.out.alloc _).own ⟨wr.heap.size, 0, none⟩ 2 2 ([(la : Int) / 256, (la : Int) % 256].map (Value.int .u8)) rfl rfl (cells_new [(la : Int) / 256, (la : Int) % 256]) (ints_oneCell _ _) (by omega) ?_; intro w6 hown6 hgr6; have H6 : Hid _ := (HT.out.alloc _).step [(la : Int) / 256, (la : Int) % 256] hown6 rfl hgr6; clear hown6 hgr6)
          | (at_builtin; refine wpList_append_fits_any _ rfl (.tmp 76) (.tmp 77) 36 rfl w.heap.size 5 i0 1 Yba.underlying36 hi0 hz1 w.heap.size (1 + lc + 2 + 2 * k + 2) N ((pre C k ++ enc16 S ++ [(la : Int) / 256, (la : Int) % 256]).map (Value.int .u8)) rfl H6.out.own aa la ca (A.map (Value.int .u8)) rfl (by simp [HA.out.hl]) HA.out.none_ (HA.out.below H6.out.bel).cells (ints_oneCell _ _) (by omega) ?_; intro w7 hown7 hgr7; have H7 : Hid _ := H6.out.step A hown7 HA.out.hl hgr7; clear hown7 hgr7)
          | (at_builtin; refine wpList_append_fits _ rfl (.tmp 80) (.tmp 81) 36 rfl w.heap.size 5 i0 1 Yba.underlying36 hi0 hz1 w.heap.size (1 + lc + 2 + 2 * k + 2 + la) N ((pre C k ++ enc16 S ++ [(la : Int) / 256, (la : Int) % 256] ++ A).map (Value.int .u8)) rfl (H7.out.alloc _).own ⟨w7.heap.size, 0, none⟩ 1 1 ([(0 : Int)].map (Value.int .u8)) rfl rfl (cells_new [(0 : Int)]) (ints_oneCell _ _) (by omega) ?_; intro w8 hown8 hgr8; have H8 : Hid _ := (H7.out.alloc _).step [(0 : Int)] hown8 rfl hgr8; clear hown8 hgr8))
        go_ret
      · exact ⟨w.heap.size, _, N, rfl, by have := H7.out.own; rw [body_eq C S A [] k la HS.out.hl HA.out.hl]; simpa using this, H7.out.bel⟩
      · exact ⟨w.heap.size, _, N, rfl, by have := H8.out.own; rw [body_eq C S A [0] k la HS.out.hl HA.out.hl]; simpa using this, H8.out.bel⟩
end Go.Proofs.Ybulkdoo.Cert
