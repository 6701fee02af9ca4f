/- (*rowShares).claim where the claim does not share. -/
import Derived.Test.YbulkdlwClaimD
import Derived.OwnWalk
namespace Go.Proofs.Ybulkdlw.Claim
open Go.RowKit Go.Conc Go.MuLone

/-- The others among the first k. -/
abbrev oth (I : List Int) (tid : Int) (k : Nat) : List Int := (I.take k).filter fun x => x != tid

theorem oth_succ {I : List Int} {tid : Int} {k : Nat} (hk : k < I.length) : oth I tid (k + 1) = oth I tid k ++ (if (I[k] != tid) = true then [I[k]] else []) := by
  unfold oth
  rw [List.take_succ_eq_append_getElem hk, List.filter_append]
  congr 1
  by_cases h : (I[k] != tid) = true
  · rw [if_pos h]; simp [h]
  · rw [if_neg h]; simp [h]
theorem oth_le (I : List Int) (tid : Int) (k : Nat) : (oth I tid k).length ≤ k := by
  have h1 := List.length_filter_le (fun x => x != tid) (I.take k)
  rw [List.length_take] at h1
  show (List.filter _ _).length ≤ k
  omega

theorem own_base {w : World} {B B' : Nat} {v : Value} {n : Nat} {xs : List Value} {e : TypeId} {sz : Nat} (hB : B ≤ B') (h : w.ownsRow B' e sz v n xs) : w.ownsRow B e sz v n xs := by
  obtain ⟨h1, h2⟩ := h
  refine ⟨h1, h2.imp id ?_⟩
  rintro ⟨a, cap, cur, r1, r2, r3⟩
  exact ⟨a, cap, cur, r1, Nat.le_trans hB r2, r3⟩

/-- What the loop has gathered. -/
structure Gath (w4 wr : World) (o : Value) (F : List Int) : Prop where
  own : wr.ownsRow w4.heap.size 29 1 o F.length (us F)
  nil : o = .slice none 0 0 ↔ F = []
  bel : Below w4.heap.size w4 wr

theorem Gath.step {w4 wr w1 : World} {o v' : Value} {F : List Int} {x : Int} {ob : Obj} (h : Gath w4 wr o F) (ho : w1.ownsRow w4.heap.size 29 1 v' (F.length + 1) (us F ++ [.int .u64 x])) (hg : (wr.alloc ob).grownBy w1 o.ownBlock) (hn : v' = .slice none 0 0 ↔ o = .slice none 0 0 ∧ 1 = 0) : Gath w4 w1 v' (F ++ [x]) := by
  have e : (F ++ [x]).length = F.length + 1 := by simp
  have hal : w4.heap.size ≤ (wr.alloc ob).heap.size := Nat.le_trans h.bel.size (by simp)
  refine ⟨by rw [e]; simpa using ho, ?_, (h.bel.alloc h.bel.size ob).grown hg hal (fun k hk => (h.own.lt k hk).1)⟩
  constructor
  · intro hv; have := (hn.1 hv).2; omega
  · intro hf; simp at hf

set_option maxRecDepth 100000 in
set_option maxHeartbeats 4000000 in
theorem claim_other (B rs ref t tb tb2 : Nat) (s lk wt word tid : Int) (mv : Value) (e2 e1 : Option Value) (sa : Option Addr) (n : Nat) (I : List Int) (w : World) (hS : S w B rs ref t tb tb2 s 0 mv word tid (.slice none 0 0) e2 e1)
    (hlk2 : (lk == 2) = false) (hv : vOf e1 = .slice sa n n) (hI : w.ownsRow B 29 1 (.slice sa n n) n (us I)) (hn : n ≤ 1024) :
    Calls Yba.prog 5 (Rargs rs ref t tb s word lk wt) w fun e w' => ∃ o, e = .returned (.tuple #[o, .bool (oth I tid n).isEmpty, .bool false]) ∧ Hid (S w' B rs ref t tb tb2 s 0 mv (if (oth I tid n).isEmpty = true then tk lk word tid else word) tid (.slice none 0 0) e2 e1 ∧ G B w w' ∧ w'.ownsRow B 29 1 o (oth I tid n).length (us (oth I tid n)) ∧ (o = .slice none 0 0 ↔ oth I tid n = [])) := by
  have HS : Hid _ := hS
  have hb2 : Below w.heap.size w ((w.alloc (.cells #[.pointer (some ⟨tb, 0, none⟩), .int .u32 s] 102)).alloc (.cells #[.int .u8 lk, .int .u8 wt] 143)) := ((Below.refl _ _).alloc (Nat.le_refl _) _).alloc (by simp) _
  have h2 : Hid _ := hS.below hb2
  have HI : Hid _ := hI
  have HV : Hid _ := hv
  clear hS hb2 hI hv
  obtain ⟨F, hF⟩ : ∃ F, F = oth I tid n := ⟨_, rfl⟩
  rw [← hF]
  have HF : Hid _ := hF
  clear hF
  obtain ⟨Wd, hWd⟩ : ∃ Wd, Wd = if F.isEmpty = true then tk lk word tid else word := ⟨_, rfl⟩
  rw [← hWd]
  have HWd : Hid _ := hWd
  clear hWd
  obtain ⟨Eb, hEb⟩ : ∃ Eb, Eb = F.isEmpty := ⟨_, rfl⟩
  rw [← hEb]
  have HEb : Hid _ := hEb
  clear hEb
  unfold Rargs
  go_enter_defers Yba.func5, Yba.ntmps5
  go_wp2_with (first | (go_at_call 9; refine (lock_free muLib ⟨rs, 0, none⟩ _ h2.out.c_lk (h2.out.f_rs 0)).mono ?_; rintro e w2 ⟨rfl, hw2⟩; obtain ⟨h3, hBx, hG⟩ := locked HS.out lk wt hw2; have H3 : Hid _ := h3; have HBx : Hid _ := hBx; have HG : Hid _ := hG; clear hw2 h3 hBx hG))
  refine (hload_any ref word w2 H3.out.c_ref).mono ?_
  rintro e w3 ⟨rfl, hw3⟩
  obtain rfl := hw3
  have b0 := HBx.out.r0
  have b1 := HBx.out.r1
  have b2 := HBx.out.c0
  have b3 := HBx.out.c1
  have cby := H3.out.c_by
  have ctid := H3.out.c_tid
  have hlk : ∀ q, (Instr.lookup 104 mv (.agg #[.pointer (some ⟨tb, 0, none⟩), .int .u32 s]) false).run Yba.prog (w3.drewN q) = .ok (.slice sa n n) (w3.drewN q) := fun q => by
    have := lookup1 (H3.out.drewN q).two (H3.out.drewN q).mf false
    rw [HV.out] at this
    exact this
  obtain ⟨i0, hi0, hz0, hz1, hz2⟩ := info_parts info29
  go_wp2_with fail
  go_quiet (fail)
  go_wp2_with fail
  have HB4 : Hid _ := below_drewN (Below.refl w3.heap.size w3) nq
  clear b0 b1 b2 b3 cby ctid hlk
  go_loopw [12, 84] (fun o j wr => ∃ k : Nat, k ≤ n ∧ j = .int .i64 k ∧ Hid (Gath w3 wr o (oth I tid k))) (fun _ j _ => n - (intOf j).toNat)
  case atStart => exact ⟨0, Nat.zero_le _, rfl, by simpa [oth] using World.ownsRow_nil _ _ _ _, by simp [oth], HB4.out⟩
  case round =>
    obtain ⟨k, hk, rfl, hA⟩ := hrel
    have hol := oth_le I tid k
    have HO3 : Hid _ := own_slAt (own_kept rfl HI.out HG.out)
    by_cases hlt : k < n
    · obtain ⟨x, rfl, hat⟩ := HO3.out.at_ (by omega)
      have hj : k < I.length := by rw [HO3.out.hl]; exact hlt
      have e3 := hat k hj
      have e4 := (hA.out.bel.cell (World.block_lt_of_cell? _ _ e3)).trans e3
      have ht3 := H3.out.c_tid
      have ht4 := (hA.out.bel.cell (World.block_lt_of_cell? _ _ ht3)).trans ht3
      have hlt' : (k : Int) < (n : Int) := by omega
      have hs := oth_succ (tid := tid) hj
      have hws := hA.out.bel.size
      clear hat e3 ht3
      by_cases hne : (I[k] != tid) = true
      · rw [if_pos hne] at hs
        have HSx : Hid _ := hs
        clear hs
        go_wp2_with (first | (at_builtin; refine wpList_append_own_at _ rfl _ _ 90 rfl w3.heap.size 29 i0 (.int .u64 0) 1 8 Yba.underlying90 hi0 hz0 hz1 hz2 rfl (by decide) _ _ _ rfl (hA.out.own.alloc _) ⟨wr.heap.size, 0, none⟩ 1 1 [.int .u64 I[k]] rfl rfl (cell_one_new _ _ _) (ints_oneCell .u64 [I[k]]) (by unfold maxLen; omega) (by omega) (by simp; omega) ?_; intro v' w1 hown' hgrow hnil hloc; have H9 : Hid _ := hA.out.step hown' hgrow hnil; clear hown' hgrow hnil hloc))
        refine ⟨⟨k + 1, by omega, by simp, ?_⟩, ?_⟩
        · rw [HSx.out]; exact H9
        · simp [intOf]; omega
      · have hne' : (I[k] != tid) = false := by simpa using hne
        rw [if_neg hne, List.append_nil] at hs
        have HSx : Hid _ := hs
        clear hs hne
        go_wp2_with fail
        refine ⟨⟨k + 1, by omega, by simp, ?_⟩, ?_⟩
        · rw [HSx.out]; exact hA
        · simp [intOf]; omega
    · have hke : k = n := by omega
      have hA' : Hid (Gath w3 wr u12 F) := by rw [HF.out, ← hke]; exact hA
      clear hke hA
      have H4 : Hid _ := H3.out.below hA'.out.bel
      have HG4 : Hid _ := HG.out.trans (G.of_below hA'.out.bel H3.out.lt)
      have HB4 : Hid _ := HBx.out.kept (G.of_below hA'.out.bel H3.out.lt)
      by_cases hFe : F = []
      · obtain rfl := hA'.out.nil.2 hFe
        have HFe : Hid _ := hFe
        have c0 := HB4.out.c0
        have c1 := HB4.out.c1
        have hemp : F.isEmpty = true := by rw [hFe]; rfl
        clear hFe
        obtain rfl : Eb = true := HEb.out.trans hemp
        obtain rfl : Wd = tk lk word tid := HWd.out.trans (if_pos hemp)
        clear hemp
        go_wp2_with fail
        refine (taking_any lk wt word tid t _ H4.out.c_tid).mono ?_
        rintro e w5 ⟨rfl, q, hw5⟩
        have b5 : Below wr.heap.size wr w5 := by rw [hw5]; exact below_drewN (alloc_b wr _) q
        have H5 : Hid _ := H4.out.below b5
        have HB5 : Hid _ := b5
        clear hw5 b5
        go_wp2_with fail
        refine (swap_any ref word (tk lk word tid) w5 H5.out.c_ref H5.out.f_ref).mono ?_
        rintro e w6 ⟨rfl, hw6⟩
        have H6 : Hid (S w6 B rs ref t tb tb2 s 1 mv (tk lk word tid) tid (.slice none 0 0) e2 e1) := hw6 ▸ H5.out.setWord _
        have HG6 : Hid (G B w w6) := hw6 ▸ (HG4.out.trans (G.of_below HB5.out H4.out.lt)).trans (H5.out.fxr _)
        clear hw6
        go_wp2_with fail
        refine leaves_cons (f := 10) (args := #[.pointer (some ⟨rs, 0, none⟩)]) (by simp) (by simp [go_sem]) ?_
        refine (unlock_deferred muLib ⟨rs, 0, none⟩ .returning _ H6.out.c_lk (H6.out.f_rs 0)).mono ?_
        rintro e u' w'' ⟨rfl, rfl, rfl⟩
        refine ⟨_, results_tmp3 rfl _ _ _, .slice none 0 0, ?_, ?_, HG6.out.trans (H6.out.fxs 0), ?_, ?_⟩
        · rfl
        · exact H6.out.setLk 0
        · first | exact World.ownsRow_nil _ _ _ _ | (rw [HFe.out]; exact World.ownsRow_nil _ _ _ _)
        · first | (simp; done) | (rw [HFe.out]; simp)
      · have hne : ¬ u12 = .slice none 0 0 := fun h => hFe (hA'.out.nil.1 h)
        obtain ⟨g, c, rfl⟩ := Go.Joins.ownsRow_form hA'.out.own (by cases F with | nil => exact (hFe rfl).elim | cons a l => simp)
        have hemp : F.isEmpty = false := by cases F with | nil => exact (hFe rfl).elim | cons a l => rfl
        obtain rfl : Eb = false := HEb.out.trans hemp
        obtain rfl : Wd = word := HWd.out.trans (if_neg (by rw [hemp]; simp))
        have HE : Hid _ := hFe
        clear hemp hFe hne
        go_wp2_with fail
        refine leaves_cons (f := 10) (args := #[.pointer (some ⟨rs, 0, none⟩)]) (by simp) (by simp [go_sem]) ?_
        refine (unlock_deferred muLib ⟨rs, 0, none⟩ .returning _ H4.out.c_lk (H4.out.f_rs 0)).mono ?_
        rintro e u' w'' ⟨rfl, rfl, rfl⟩
        refine ⟨_, results_tmp3 rfl _ _ _, .slice (some ⟨g, 0, none⟩) F.length c, ?_, ?_, HG4.out.trans (H4.out.fxs 0), own_base H3.out.lt (own_kept rfl hA'.out.own (H4.out.fxs 0)), ?_⟩
        · rfl
        · exact H4.out.setLk 0
        · exact ⟨fun h => (by cases h), fun h => (HE.out h).elim⟩
end Go.Proofs.Ybulkdlw.Claim
