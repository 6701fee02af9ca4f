/- (*rowShares).claim walked, case by case. -/
import Derived.Test.YbulkdlwClaimC
import Derived.Deep.RegionLawGrows
import Derived.Deep.DeepCutAuto
import Derived.WideShapes
import Derived.Lib.SmallJoins
import Derived.Laws.Cover3
namespace Go.Proofs.Ybulkdlw.Claim
open Go.RowKit Go.Conc Go.MuLone

abbrev Rargs (rs ref t tb : Nat) (s met lk wt : Int) : Array Value := #[.pointer (some ⟨rs, 0, none⟩), .agg #[.pointer (some ⟨tb, 0, none⟩), .int .u32 s], .pointer (some ⟨ref, 0, none⟩), .int .u64 met, .pointer (some ⟨t, 0, none⟩), .agg #[.int .u8 lk, .int .u8 wt]]

/-- The two boxes that claim makes of its arguments. -/
structure Bx (w : World) (N tb : Nat) (s lk wt : Int) : Prop where
  r : w.heap[N]? = some (.cells #[.pointer (some ⟨tb, 0, none⟩), .int .u32 s] 102 (0, 0))
  c : w.heap[N + 1]? = some (.cells #[.int .u8 lk, .int .u8 wt] 143 (0, 0))
theorem Bx.kept {w w' : World} {B N tb : Nat} {s lk wt : Int} (h : Bx w N tb s lk wt) (g : G B w w') : Bx w' N tb s lk wt := ⟨g.kf _ _ h.r rfl, g.kf _ _ h.c rfl⟩
theorem Bx.r0 {w : World} {N tb : Nat} {s lk wt : Int} (h : Bx w N tb s lk wt) : w.cell? ⟨N, 0, none⟩ = some (.pointer (some ⟨tb, 0, none⟩)) := by simp [World.cell?, h.r]
theorem Bx.r1 {w : World} {N tb : Nat} {s lk wt : Int} (h : Bx w N tb s lk wt) : w.cell? ⟨N, 1, none⟩ = some (.int .u32 s) := by simp [World.cell?, h.r]
theorem Bx.c0 {w : World} {N tb : Nat} {s lk wt : Int} (h : Bx w N tb s lk wt) : w.cell? ⟨N + 1, 0, none⟩ = some (.int .u8 lk) := by simp [World.cell?, h.c]
theorem Bx.c1 {w : World} {N tb : Nat} {s lk wt : Int} (h : Bx w N tb s lk wt) : w.cell? ⟨N + 1, 1, none⟩ = some (.int .u8 wt) := by simp [World.cell?, h.c]
theorem Bx.mk_ (w : World) (tb : Nat) (s lk wt : Int) : Bx ((w.alloc (.cells #[.pointer (some ⟨tb, 0, none⟩), .int .u32 s] 102)).alloc (.cells #[.int .u8 lk, .int .u8 wt] 143)) w.heap.size tb s lk wt := by
  refine ⟨?_, ?_⟩
  · rw [Below.heap_alloc _ _ _ (by simp)]; exact heap_alloc_new _ _
  · have := heap_alloc_new (w.alloc (.cells #[.pointer (some ⟨tb, 0, none⟩), .int .u32 s] 102)) (.cells #[.int .u8 lk, .int .u8 wt] 143)
    simpa using this

theorem S.lt {w : World} {B rs ref t tb tb2 : Nat} {s lk : Int} {mv : Value} {word tid : Int} {tsh : Value} {e2 e1 : Option Value} (h : S w B rs ref t tb tb2 s lk mv word tid tsh e2 e1) : B ≤ w.heap.size :=
  Nat.le_trans h.brs (Nat.le_of_lt (Array.getElem?_eq_some_iff.1 h.rsb).1)

/-- Behind the lock. -/
theorem locked {w w' : World} {B rs ref t tb tb2 : Nat} {s : Int} {mv : Value} {word tid : Int} {tsh : Value} {e2 e1 : Option Value} (h : S w B rs ref t tb tb2 s 0 mv word tid tsh e2 e1) (lk wt : Int)
    (hw : w' = ((w.alloc (.cells #[.pointer (some ⟨tb, 0, none⟩), .int .u32 s] 102)).alloc (.cells #[.int .u8 lk, .int .u8 wt] 143)).setCell ⟨rs, 0, none⟩ (.int .i32 1)) :
    S w' B rs ref t tb tb2 s 1 mv word tid tsh e2 e1 ∧ Bx w' w.heap.size tb s lk wt ∧ G B w w' := by
  subst hw
  have hb : Below w.heap.size w ((w.alloc (.cells #[.pointer (some ⟨tb, 0, none⟩), .int .u32 s] 102)).alloc (.cells #[.int .u8 lk, .int .u8 wt] 143)) := ((Below.refl _ _).alloc (Nat.le_refl _) _).alloc (by simp) _
  have h1 := h.below hb
  exact ⟨h1.setLk 1, (Bx.mk_ w tb s lk wt).kept (h1.fxs 1), (G.of_below hb h.lt).trans (h1.fxs 1)⟩

set_option maxRecDepth 100000 in
theorem claim_stale (B rs ref t tb tb2 : Nat) (s met lk wt word tid : Int) (mv tsh : Value) (e2 e1 : Option Value) (w : World) (hS : S w B rs ref t tb tb2 s 0 mv word tid tsh e2 e1) (hne : word ≠ met) :
    Calls Yba.prog 5 (Rargs rs ref t tb s met lk wt) w fun e w' => e = .returned (.tuple #[.slice none 0 0, .bool false, .bool true]) ∧ Hid (S w' B rs ref t tb tb2 s 0 mv word tid tsh e2 e1 ∧ G B w w') := by
  have HS : Hid _ := hS
  have hb2 : Below w.heap.size w ((w.alloc (.cells #[.pointer (some ⟨tb, 0, none⟩), .int .u32 s] 102)).alloc (.cells #[.int .u8 lk, .int .u8 wt] 143)) := ((Below.refl _ _).alloc (Nat.le_refl _) _).alloc (by simp) _
  have h2 : Hid _ := hS.below hb2
  have hne' : (word != met) = true := by simpa using hne
  clear hS hb2 hne
  unfold Rargs
  go_enter_defers Yba.func5, Yba.ntmps5
  go_wp2_with (first | (go_at_call 9; refine (lock_free muLib ⟨rs, 0, none⟩ _ h2.out.c_lk (h2.out.f_rs 0)).mono ?_; rintro e w2 ⟨rfl, hw2⟩; obtain ⟨h3, hBx, hG⟩ := locked HS.out lk wt hw2; have H3 : Hid _ := h3; have HBx : Hid _ := hBx; have HG : Hid _ := hG; clear hw2 h3 hBx hG))
  refine (hload_any ref word w2 H3.out.c_ref).mono ?_
  rintro e w3 ⟨rfl, hw3⟩
  obtain rfl := hw3
  go_wp2_with fail
  refine leaves_cons (f := 10) (args := #[.pointer (some ⟨rs, 0, none⟩)]) (by simp) (by simp [go_sem]) ?_
  refine (unlock_deferred muLib ⟨rs, 0, none⟩ .returning _ H3.out.c_lk (H3.out.f_rs 0)).mono ?_
  rintro e u' w'' ⟨rfl, rfl, rfl⟩
  exact ⟨_, results_tmp3 rfl _ _ _, rfl, H3.out.setLk 0, HG.out.trans (H3.out.fxs 0)⟩

theorem S.drewN {w : World} {B rs ref t tb tb2 : Nat} {s lk : Int} {mv : Value} {word tid : Int} {tsh : Value} {e2 e1 : Option Value} (h : S w B rs ref t tb tb2 s lk mv word tid tsh e2 e1) (n : Nat) : S (w.drewN n) B rs ref t tb tb2 s lk mv word tid tsh e2 e1 := h.below (below_drewN (Below.refl _ _) n)


abbrev us (I : List Int) : List Value := I.map (Value.int .u64)
theorem own_kept {w w' : World} {B base : Nat} {v : Value} {n : Nat} {xs : List Value} {e : TypeId} {sz : Nat} (he : Fx (.cells #[] e (0, 0)) = true) (h : w.ownsRow base e sz v n xs) (g : G B w w') : w'.ownsRow base e sz v n xs := by
  obtain ⟨h1, h2⟩ := h
  refine ⟨h1, h2.imp id ?_⟩
  rintro ⟨a, cap, cur, r1, r2, r3, r4⟩
  exact ⟨a, cap, cur, r1, r2, g.kf _ _ r3 he, r4⟩
theorem own_slAt {w : World} {base : Nat} {sa : Option Addr} {n sc : Nat} {I : List Int} (h : w.ownsRow base 29 1 (.slice sa n sc) n (us I)) : SlAt w sa n I := by
  obtain ⟨h1, h2⟩ := h
  have hl : I.length = n := by simpa using h1
  refine ⟨hl, fun hp => ?_⟩
  rcases h2 with ⟨_, h0⟩ | ⟨g, cap, cur, r1, r2, r3, r4, r5, r6, r7⟩
  · omega
  · cases r1
    refine ⟨_, rfl, fun j hj => ?_⟩
    have e : (cur.toList.take (n * 1))[j]? = some (.int .u64 I[j]) := by rw [r7]; simp [hj]
    rw [List.getElem?_take_of_lt (by omega)] at e
    rw [Go.WideShapes.add_plain]
    simpa [World.cell?, r3] using e
set_option maxRecDepth 100000 in
theorem claim_in (B rs ref t tb tb2 : Nat) (s lk wt word tid : Int) (mv tsh : Value) (e2 e1 : Option Value) (sa : Option Addr) (n sc : Nat) (I : List Int) (w : World) (hS : S w B rs ref t tb tb2 s 0 mv word tid tsh e2 e1)
    (hl : lk = 2) (hsh : shB word = true) (hv : vOf e1 = .slice sa n sc) (hI : w.ownsRow B 29 1 (.slice sa n sc) n (us I)) (hn : n ≤ 1025) (hin : tid ∈ I) :
    Calls Yba.prog 5 (Rargs rs ref t tb s word lk wt) w fun e w' => e = .returned (.tuple #[.slice none 0 0, .bool false, .bool false]) ∧ Hid (S w' B rs ref t tb tb2 s 0 mv word tid tsh e2 e1 ∧ G B w w') := by
  have HS : Hid _ := hS
  have hb2 : Below w.heap.size w ((w.alloc (.cells #[.pointer (some ⟨tb, 0, none⟩), .int .u32 s] 102)).alloc (.cells #[.int .u8 lk, .int .u8 wt] 143)) := ((Below.refl _ _).alloc (Nat.le_refl _) _).alloc (by simp) _
  have h2 : Hid _ := hS.below hb2
  have HI : Hid _ := hI
  have HV : Hid _ := hv
  have hin' : decide (tid ∈ I) = true := by simpa using hin
  subst hl
  clear hS hb2 hI hv hin
  unfold Rargs
  go_enter_defers Yba.func5, Yba.ntmps5
  go_wp2_with (first | (go_at_call 9; refine (lock_free muLib ⟨rs, 0, none⟩ _ h2.out.c_lk (h2.out.f_rs 0)).mono ?_; rintro e w2 ⟨rfl, hw2⟩; obtain ⟨h3, hBx, hG⟩ := locked HS.out 2 wt hw2; have H3 : Hid _ := h3; have HBx : Hid _ := hBx; have HG : Hid _ := hG; clear hw2 h3 hBx hG))
  refine (hload_any ref word w2 H3.out.c_ref).mono ?_
  rintro e w3 ⟨rfl, hw3⟩
  obtain rfl := hw3
  have b0 := HBx.out.r0
  have b1 := HBx.out.r1
  have b2 := HBx.out.c0
  have b3 := HBx.out.c1
  have cby := H3.out.c_by
  have ctid := H3.out.c_tid
  have hlk : ∀ q, (Instr.lookup 104 mv (.agg #[.pointer (some ⟨tb, 0, none⟩), .int .u32 s]) false).run Yba.prog (w3.drewN q) = .ok (.slice sa n sc) (w3.drewN q) := fun q => by
    have := lookup1 (H3.out.drewN q).two (H3.out.drewN q).mf false
    rw [HV.out] at this
    exact this
  go_wp2_with fail
  go_quiet (fail)
  go_wp2_with fail
  refine (shared_any word _).mono ?_
  rintro e w4 ⟨rfl, hw4⟩
  obtain rfl := hw4
  go_wp2_with fail
  refine (contains_any sa n sc I tid _ ((own_slAt (own_kept rfl HI.out HG.out)).below (below_drewN (Below.refl _ _) nq)) hn).mono ?_
  rintro e w5 ⟨rfl, hw5⟩
  obtain rfl := hw5
  have H5 : Hid _ := H3.out.drewN nq
  go_wp2_with fail
  refine leaves_cons (f := 10) (args := #[.pointer (some ⟨rs, 0, none⟩)]) (by simp) (by simp [go_sem]) ?_
  refine (unlock_deferred muLib ⟨rs, 0, none⟩ .returning _ H5.out.c_lk (H5.out.f_rs 0)).mono ?_
  rintro e u' w'' ⟨rfl, rfl, rfl⟩
  exact ⟨_, results_tmp3 rfl _ _ _, rfl, H5.out.setLk 0, (HG.out.trans (G.of_below (below_drewN (Below.refl _ _) nq) H3.out.lt)).trans (H5.out.fxs 0)⟩
theorem info29 : (Yba.prog.info? 29).map (fun i => (i.zero, i.size, i.bytes)) = some (some (.int .u64 0), 1, 8) := by kernel_rfl
theorem info102 : (Yba.prog.info? 102).map (fun i => (i.zero, i.size, i.bytes)) = some (some (.agg #[.pointer none, .int .u32 0]), 2, 16) := by kernel_rfl

theorem wp_noexit {P : Program} {c : Code} {K : Act → World → Prop} {Q' : Exit → Act → World → Prop} {a : Act} {w : World} (h : c.wp P (Exit.then K (fun _ _ _ => False)) a w) : c.wp P (Exit.then K Q') a w := by
  refine wp_mono h ?_
  intro e a' w' hq
  cases e with
  | normal => exact hq
  | exit id => exact hq.elim
  | goto l => exact hq.elim
  | ret => exact hq.elim
  | panic ch => exact hq.elim
  | outgrown => exact hq.elim

theorem map_eq_some (m : Nat) (w : World) : (binOp .eql 104 (.map (some m)) (.map none)).run Yba.prog w = .ok (.bool false) w := by
  simp only [binOp]
  simp [Op.equal, Op.maxDepth, run_equalIn_map_nil w 9999 104 102 90 (some m) Yba.underlying104]
theorem map_eq_none (w : World) : (binOp .eql 104 (.map none) (.map none)).run Yba.prog w = .ok (.bool true) w := by
  simp only [binOp]
  simp [Op.equal, Op.maxDepth, run_equalIn_map_nil w 9999 104 102 90 none Yba.underlying104]

theorem below_none {w w' : World} (h : w.grownBy w' none) : Below w.heap.size w w' := (Below.refl _ _).grown h (Nat.le_refl _) (fun _ h => by cases h)

/-- The state behind the append, ahead of the store at r. -/
theorem S.made {w : World} {B rs ref t tb tb2 m : Nat} {s lk : Int} {word tid : Int} {tsh : Value} {e2 e1 : Option Value} (h : S w B rs ref t tb tb2 s lk (.map (some m)) word tid tsh e2 e1) (x : Value) :
    ∃ es' ck', (Instr.mapUpdate 104 (.map (some m)) (.agg #[.pointer (some ⟨tb, 0, none⟩), .int .u32 s]) x).run Yba.prog w = .ok () { w with heap := w.heap.setIfInBounds m (.map es' ck') } ∧ Hid (S { w with heap := w.heap.setIfInBounds m (.map es' ck') } B rs ref t tb tb2 s lk (.map (some m)) word tid tsh e2 (some x) ∧ G B w { w with heap := w.heap.setIfInBounds m (.map es' ck') }) := by
  have hmf := h.mf
  cases hmf with
  | made _ es ck hb he =>
    obtain ⟨es', ck', hr, he'⟩ := update1 h.two hb he x
    exact ⟨es', ck', hr, h.upd rfl hb he', G.setMap hb (h.bm m rfl) _⟩

theorem alloc_b (w : World) (o : Obj) : Below w.heap.size w (w.alloc o) := (Below.refl _ _).alloc (Nat.le_refl _) o
theorem alloc_g (w : World) (o : Obj) {B : Nat} (hB : B ≤ w.heap.size) : G B w (w.alloc o) := G.of_below (alloc_b w o) hB
theorem append_facts {w : World} {B n : Nat} {sa : Option Addr} {I : List Int} (h : w.ownsRow B 29 1 (.slice sa n n) n (us I)) (tid : Int) :
    (sa = none → n = 0 ∧ n = 0) ∧ (us I).length = n * 1 ∧ ∀ b, sa = some b → ∀ j u, (us I)[j]? = some u → (w.drew.alloc (.cells #[.int .u64 tid] 29)).cell? (b.add j) = some u := by
  have hs := own_slAt h
  obtain ⟨h1, h2⟩ := h
  refine ⟨fun e => ?_, h1, fun b hb j u hu => ?_⟩
  · rcases h2 with ⟨_, h0⟩ | ⟨g, cap, cur, q1, _⟩
    · exact ⟨h0, h0⟩
    · rw [e] at q1; cases q1
  · have hj : j < I.length := by have := (List.getElem?_eq_some_iff.1 hu).1; simpa using this
    have hu' : u = .int .u64 I[j] := by simp [hj] at hu; exact hu.symm
    obtain ⟨x, hx, hc⟩ := hs.at_ (by rw [← hs.hl]; omega)
    rw [hb] at hx
    cases hx
    rw [hu']
    have b1 : Below w.heap.size w (w.drew.alloc (.cells #[.int .u64 tid] 29)) := (Below.refl _ _).drew.alloc (Nat.le_refl _) _
    exact (b1.cell (World.block_lt_of_cell? _ _ (hc j hj))).trans (hc j hj)

/-- Behind the append of tid (a one-cell block was laid first). -/
theorem after_append {w w6 : World} {B rs ref t tb tb2 : Nat} {s lk : Int} {mv : Value} {word tid : Int} {tsh : Value} {e2 e1 : Option Value} {o : Obj} {v' : Value} {n : Nat} {I : List Int} (h : S w B rs ref t tb tb2 s lk mv word tid tsh e2 e1)
    (hg : (w.drew.alloc o).grownBy w6 none) (ho : w6.ownsRow (w.drew.alloc o).heap.size 29 1 v' (n + 1) (us I ++ [.int .u64 tid])) :
    Hid (S w6 B rs ref t tb tb2 s lk mv word tid tsh e2 e1) ∧ Hid (G B w w6) ∧ Hid (w6.ownsRow B 29 1 v' (n + 1) (us (I ++ [tid]))) ∧ ∃ g c, v' = .slice (some ⟨g, 0, none⟩) (n + 1) c := by
  have b1 : Below w.heap.size w (w.drew.alloc o) := (Below.refl _ _).drew.alloc (Nat.le_refl _) o
  have b2 := b1.trans ((below_none hg).mono b1.size)
  refine ⟨h.below b2, G.of_below b2 h.lt, ?_, Go.Joins.ownsRow_form ho (by omega)⟩
  obtain ⟨r1, r2⟩ := ho
  refine ⟨by simpa using r1, ?_⟩
  rcases r2 with ⟨_, h0⟩ | ⟨g, cap, cur, q1, q2, q3, q4, q5, q6, q7⟩
  · omega
  · exact .inr ⟨g, cap, cur, q1, Nat.le_trans h.lt (Nat.le_trans b1.size q2), q3, q4, q5, q6, by simpa using q7⟩

theorem after_append2 {w w6 : World} {B rs ref t tb tb2 : Nat} {s lk : Int} {mv : Value} {word tid : Int} {tsh : Value} {e2 e1 : Option Value} {o : Obj} {v' : Value} {xs : List Value} (h : S w B rs ref t tb tb2 s lk mv word tid tsh e2 e1)
    (hg : (w.drew.alloc o).grownBy w6 none) (ho : w6.ownsRow (w.drew.alloc o).heap.size 102 2 v' (0 + 1) ([] ++ xs)) :
    Hid (S w6 B rs ref t tb tb2 s lk mv word tid tsh e2 e1) ∧ Hid (G B w w6) ∧ Hid (w6.ownsRow B 102 2 v' 1 xs) ∧ ∃ g c, v' = .slice (some ⟨g, 0, none⟩) 1 c := by
  have b1 : Below w.heap.size w (w.drew.alloc o) := (Below.refl _ _).drew.alloc (Nat.le_refl _) o
  have b2 := b1.trans ((below_none hg).mono b1.size)
  refine ⟨h.below b2, G.of_below b2 h.lt, ?_, Go.Joins.ownsRow_form ho (by omega)⟩
  obtain ⟨r1, r2⟩ := ho
  refine ⟨by simpa using r1, ?_⟩
  rcases r2 with ⟨_, h0⟩ | ⟨g, cap, cur, q1, q2, q3, q4, q5, q6, q7⟩
  · omega
  · exact .inr ⟨g, cap, cur, q1, Nat.le_trans h.lt (Nat.le_trans b1.size q2), q3, q4, q5, q6, by simpa using q7⟩

theorem by_cases_mv {w : World} {tb tb2 : Nat} {s : Int} {e2 e1 : Option Value} {mv : Value} (h : MF w tb tb2 s e2 e1 mv) :
    ∃ bm : Bool, (∀ w, (binOp .eql 104 mv (.map none)).run Yba.prog w = .ok (.bool bm) w) ∧ (∀ w, (eqGuard .eql 104 (.tmp 54) (.const (.map none)) mv (.map none)).run Yba.prog w = .ok () w) ∧ ((bm = true ∧ mv = .map none) ∨ (bm = false ∧ ∃ m, mv = .map (some m))) := by
  cases h with
  | nil a b => exact ⟨true, map_eq_none, fun w => by simp [eqGuard], .inl ⟨rfl, rfl⟩⟩
  | made m es ck hb he => exact ⟨false, map_eq_some m, fun w => by simp [eqGuard], .inr ⟨rfl, m, rfl⟩⟩

abbrev word' (word : Int) : Int := if shB word = true then word else 2305843009213693952
abbrev held (word : Int) (I : List Int) : List Int := if shB word = true then I else []

set_option maxRecDepth 100000 in
set_option maxHeartbeats 4000000 in
theorem claim_join (B rs ref t tb tb2 : Nat) (s wt word tid : Int) (mv : Value) (e2 e1 : Option Value) (sa : Option Addr) (n : Nat) (I : List Int) (w : World) (hS : S w B rs ref t tb tb2 s 0 mv word tid (.slice none 0 0) e2 e1)
    (hv : vOf e1 = .slice sa n n) (hI : w.ownsRow B 29 1 (.slice sa n n) n (us I)) (hn : n ≤ 1024) (hin : ¬ tid ∈ held word I) :
    Calls Yba.prog 5 (Rargs rs ref t tb s word 2 wt) w fun e w' => e = .returned (.tuple #[.slice none 0 0, .bool true, .bool false]) ∧ Hid (∃ v' tv m k, S w' B rs ref t tb tb2 s 0 (.map (some m)) (word' word) tid tv e2 (some v') ∧ G B w w' ∧ w'.ownsRow B 29 1 v' k (us (held word I ++ [tid])) ∧ w'.ownsRow B 102 2 tv 1 [.pointer (some ⟨tb, 0, none⟩), .int .u32 s]) := by
  have HS : Hid _ := hS
  have hb2 : Below w.heap.size w ((w.alloc (.cells #[.pointer (some ⟨tb, 0, none⟩), .int .u32 s] 102)).alloc (.cells #[.int .u8 2, .int .u8 wt] 143)) := ((Below.refl _ _).alloc (Nat.le_refl _) _).alloc (by simp) _
  have h2 : Hid _ := hS.below hb2
  have HI : Hid _ := hI
  have HV : Hid _ := hv
  have HN : Hid _ := hin
  clear hS hb2 hI hv hin
  obtain ⟨J, hJ⟩ : ∃ J, J = held word I := ⟨_, rfl⟩
  obtain ⟨W, hW⟩ : ∃ W, W = word' word := ⟨_, rfl⟩
  rw [← hJ, ← hW]
  have HJ : Hid _ := hJ
  have HW : Hid _ := hW
  clear hJ hW
  unfold Rargs
  go_enter_defers Yba.func5, Yba.ntmps5
  go_wp2_with (first | (go_at_call 9; refine (lock_free muLib ⟨rs, 0, none⟩ _ h2.out.c_lk (h2.out.f_rs 0)).mono ?_; rintro e w2 ⟨rfl, hw2⟩; obtain ⟨h3, hBx, hG⟩ := locked HS.out 2 wt hw2; have H3 : Hid _ := h3; have HBx : Hid _ := hBx; have HG : Hid _ := hG; clear hw2 h3 hBx hG))
  refine (hload_any ref word w2 H3.out.c_ref).mono ?_
  rintro e w3 ⟨rfl, hw3⟩
  obtain rfl := hw3
  have b0 := HBx.out.r0
  have b1 := HBx.out.r1
  have b2 := HBx.out.c0
  have b3 := HBx.out.c1
  have cby := H3.out.c_by
  have ctid := H3.out.c_tid
  have hlk : ∀ q, (Instr.lookup 104 mv (.agg #[.pointer (some ⟨tb, 0, none⟩), .int .u32 s]) false).run Yba.prog (w3.drewN q) = .ok (.slice sa n n) (w3.drewN q) := fun q => by
    have := lookup1 (H3.out.drewN q).two (H3.out.drewN q).mf false
    rw [HV.out] at this
    exact this
  go_wp2_with fail
  go_quiet (fail)
  go_wp2_with fail
  refine (shared_any word _).mono ?_
  rintro e w4 ⟨rfl, hw4⟩
  have H4 : Hid (S w4 B rs ref t tb tb2 s 1 mv word tid (.slice none 0 0) e2 e1) := hw4 ▸ H3.out.drewN nq
  have HG4 : Hid (G B w w4) := hw4 ▸ (HG.out.trans (G.of_below (below_drewN (Below.refl _ _) nq) H3.out.lt))
  have HB4 : Hid (Bx w4 w.heap.size tb s 2 wt) := hw4 ▸ HBx.out.kept (G.of_below (below_drewN (Below.refl _ _) nq) H3.out.lt)
  clear hw4 hlk b0 b1 b2 b3 cby ctid
  go_upto_if 40 with fail
  go_cut [15] from 18 (fun v wx => Hid (∃ sa' n', v = .slice sa' n' n' ∧ n' ≤ 1024 ∧ S wx B rs ref t tb tb2 s 1 mv W tid (.slice none 0 0) e2 e1 ∧ G B w wx ∧ wx.ownsRow B 29 1 (.slice sa' n' n') n' (us J) ∧ Bx wx w.heap.size tb s 2 wt))
  case first =>
    by_cases hsh : shB word = true
    · have hsh2 : (!shB word) = false := by rw [hsh]; rfl
      rw [hsh2]
      go_wp2_with fail
      go_meet
      case rel =>
        have e1 : J = I := by rw [HJ.out]; exact if_pos hsh
        have e2 : W = word := by rw [HW.out]; exact if_pos hsh
        rw [e1, e2]
        exact ⟨sa, n, rfl, hn, H4.out, HG4.out, own_kept rfl HI.out HG4.out, HB4.out⟩
    · have hsh' : shB word = false := by simpa using hsh
      have hsh2 : (!shB word) = true := by rw [hsh']; rfl
      rw [hsh2]
      clear hsh
      go_wp2_with fail
      refine (swap_any ref word 2305843009213693952 w4 H4.out.c_ref H4.out.f_ref).mono ?_
      rintro e w5 ⟨rfl, hw5⟩
      have H5 : Hid _ := hw5
      clear hw5
      go_wp2_with fail
      go_meet
      case rel =>
        have e1 : J = [] := by rw [HJ.out]; exact if_neg (by rw [hsh']; simp)
        have e2 : W = 2305843009213693952 := by rw [HW.out]; exact if_neg (by rw [hsh']; simp)
        rw [e1, e2, H5.out]
        exact ⟨none, 0, rfl, by omega, H4.out.setWord _, HG4.out.trans (H4.out.fxr _), World.ownsRow_nil _ _ _ _, HB4.out.kept (H4.out.fxr _)⟩
  case rest =>
    obtain ⟨sa', n', rfl, hn', h5, hg5, ho5, hb5⟩ := hcut.out
    have HB5 : Hid _ := hb5
    have H5 : Hid _ := h5
    have HG5 : Hid _ := hg5
    have HO5 : Hid _ := ho5
    clear hcut h5 hg5 ho5 hb5
    have hin' : decide (tid ∈ J) = false := by rw [HJ.out]; simpa using HN.out
    have ctid := H5.out.c_tid
    go_wp2_with fail
    refine (contains_any sa' n' n' J tid _ (own_slAt HO5.out) (by omega)).mono ?_
    rintro e w5 ⟨rfl, hw5⟩
    obtain rfl := hw5
    clear ctid
    obtain ⟨bm, hmq, hge, hcase⟩ := by_cases_mv H5.out.mf
    have HC : Hid _ := hcase
    have cby := H5.out.c_by
    clear hcase
    go_upto_if 55 with fail
    go_cut [] from 18 (fun wx => Hid (∃ m, S wx B rs ref t tb tb2 s 1 (.map (some m)) W tid (.slice none 0 0) e2 e1 ∧ G B w wx ∧ wx.ownsRow B 29 1 (.slice sa' n' n') n' (us J) ∧ Bx wx w.heap.size tb s 2 wt))
    case first =>
      rcases HC.out with ⟨hb, hm⟩ | ⟨hb, m, hm⟩
      · rw [hb]
        subst hm
        have hmk : ∀ (t : TypeId) (w : World), (Instr.makeMap t none).run Yba.prog w = .ok (.map (some w.heap.size)) (w.alloc (.map #[] 0)) := fun _ _ => rfl
        have H6 : Hid _ := H5.out.below (alloc_b w5 (.map #[] 0))
        have c6 := H6.out.c_by
        have f6 := H6.out.f_rs 2
        clear hmq hge hb
        go_wp2_with fail
        go_meet
        case rel =>
          have g6 := alloc_g w5 (.map #[] 0) H5.out.lt
          have g7 := g6.trans (H6.out.fxb (.map (some w5.heap.size)))
          exact ⟨w5.heap.size, H6.out.by_ (heap_alloc_new w5 _) H5.out.lt, HG5.out.trans g7, own_kept rfl HO5.out g7, HB5.out.kept g7⟩
      · rw [hb]
        subst hm
        clear hmq hge hb
        go_wp2_with fail
        go_meet
        case rel => exact ⟨m, H5.out, HG5.out, HO5.out, HB5.out⟩
    case rest =>
      obtain ⟨m, h6, hg6, ho6, hb6⟩ := hcut.out
      have H6 : Hid _ := h6
      have HG6 : Hid _ := hg6
      have HO6 : Hid _ := ho6
      have HB6 : Hid _ := hb6
      clear hcut h6 hg6 ho6 hb6 hmq hge HC cby
      have b0 := HB6.out.r0
      have b1 := HB6.out.r1
      have cby := H6.out.c_by
      have ctid := H6.out.c_tid
      obtain ⟨i0, hi0, hz0, hz1, hz2⟩ := info_parts info29
      have HA : Hid ((sa' = none → n' = 0 ∧ n' = 0) ∧ (us J).length = n' * 1 ∧ ∀ b, sa' = some b → ∀ j u, (us J)[j]? = some u → (wc.drew.alloc (.cells #[.int .u64 tid] 29)).cell? (b.add j) = some u) := append_facts HO6.out tid
      have HA1 : Hid _ := cell_one_new wc.drew (.int .u64 tid) 29
      have gx : Hid _ := alloc_g wc (.cells #[.int .u64 tid] 29) H6.out.lt
      have a0 := (HB6.out.kept gx.out).r0
      have a1 := (HB6.out.kept gx.out).r1
      have aby := (H6.out.below (alloc_b wc (.cells #[.int .u64 tid] 29))).c_by
      go_wp2_with fail
      go_cut [] from 18 (fun wx => Hid (∃ v', S wx B rs ref t tb tb2 s 1 (.map (some m)) W tid (.slice none 0 0) e2 (some v') ∧ G B wc wx ∧ wx.ownsRow B 29 1 v' (n' + 1) (us (J ++ [tid]))))
      case first =>
        refine wp_noexit ?_
        go_region_law (refine step_append_grows rfl (.tmp 65) (.tmp 70) 90 rfl 29 i0 (.int .u64 0) 1 8 Yba.underlying90 hi0 hz0 hz1 hz2 rfl (by decide) sa' n' n' (us J) (by simp [Act.eval]) (HA.out.1) (HA.out.2.1) (HA.out.2.2) ⟨wc.heap.size, 0, none⟩ 1 1 [.int .u64 tid] (by simp [Act.eval]) rfl (HA1.out) (ints_oneCell .u64 [tid]) (by omega) (by unfold maxLen; omega) (by omega) ?_; intro v' w6 hown hgrow; obtain ⟨H6', H6g, H6o, H6v⟩ := after_append H6.out hgrow hown; obtain ⟨g6, c6, rfl⟩ := H6v; obtain ⟨es', ck', hup, H7⟩ := H6'.out.made (.slice (some ⟨g6, 0, none⟩) (n' + 1) c6); have hb6 := HB6.out.kept H6g.out; have d0 := hb6.r0; have d1 := hb6.r1; have d2 := H6'.out.c_by; clear hown hgrow hb6)
        all_goals
          go_wp2_with fail
          go_meet
          case rel => exact ⟨_, H7.out.1, H6g.out.trans H7.out.2, own_kept rfl H6o.out H7.out.2⟩
      case rest =>
        obtain ⟨v', h7, hg7, ho7⟩ := hcut.out
        have H7 : Hid _ := h7
        have HG7 : Hid _ := hg7
        have HO7 : Hid _ := ho7
        clear hcut h7 hg7 ho7
        have HB7 : Hid _ := HB6.out.kept HG7.out
        have x0 := HB7.out.r0
        have x1 := HB7.out.r1
        have xs := H7.out.c_tsh
        have gy : Hid _ := alloc_g wc (.cells #[.pointer (some ⟨tb, 0, none⟩), .int .u32 s] 102) H7.out.lt
        have y0 := (HB7.out.kept gy.out).r0
        have y1 := (HB7.out.kept gy.out).r1
        have ys := (H7.out.below (alloc_b wc (.cells #[.pointer (some ⟨tb, 0, none⟩), .int .u32 s] 102))).c_tsh
        obtain ⟨j0, hj0, hy0, hy1, hy2⟩ := info_parts info102
        have HY : Hid _ := cell_two_new wc.drew (.pointer (some ⟨tb, 0, none⟩)) (.int .u32 s) 102
        go_wp2_with fail
        refine wp_noexit ?_
        go_region_law (refine step_append_grows rfl (.tmp 76) (.tmp 78) 135 rfl 102 j0 (.agg #[.pointer none, .int .u32 0]) 2 16 Yba.underlying135 hj0 hy0 hy1 hy2 rfl (by decide) none 0 0 [] (by simp [Act.eval]) (fun _ => ⟨rfl, rfl⟩) rfl (fun _ h => by cases h) ⟨wc.heap.size, 0, none⟩ 1 1 [.pointer (some ⟨tb, 0, none⟩), .int .u32 s] (by simp [Act.eval]) rfl (HY.out) (by simp [Value.oneCell']) (by omega) (by unfold maxLen; omega) (by omega) ?_; intro v8 w8 hown hgrow; obtain ⟨H8, H8g, H8o, H8v⟩ := after_append2 H7.out hgrow hown; obtain ⟨g8, c8, rfl⟩ := H8v; have z0 := H8.out.c_tsh; have z1 := H8.out.f_t 52; clear hown hgrow)
        all_goals
          have H9 : Hid _ := H8.out.setTsh (.slice (some ⟨g8, 0, none⟩) 1 c8)
          have G9 : Hid _ := (H8.out.fxt (.slice (some ⟨g8, 0, none⟩) 1 c8)).trans (H9.out.fxs 0)
          have HG9 : Hid _ := ((HG6.out.trans HG7.out).trans H8g.out).trans G9.out
          go_wp2_with fail
          refine leaves_cons (f := 10) (args := #[.pointer (some ⟨rs, 0, none⟩)]) (by simp) (by simp [go_sem]) ?_
          refine (unlock_deferred muLib ⟨rs, 0, none⟩ .returning _ H9.out.c_lk (H9.out.f_rs 0)).mono ?_
          rintro e u' w'' ⟨rfl, rfl, rfl⟩
          exact ⟨_, results_tmp3 rfl _ _ _, rfl, v', _, m, n' + 1, H9.out.setLk 0, HG9.out, own_kept rfl HO7.out (H8g.out.trans G9.out), own_kept rfl H8o.out G9.out⟩
end Go.Proofs.Ybulkdlw.Claim
