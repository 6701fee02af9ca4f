/- The law walked. -/
import Derived.Test.YbulkdlwClaimL
import Derived.BigRegion
namespace Go.Proofs.Ybulkdlw.Claim
open Go.RowKit

set_option maxRecDepth 100000 in
set_option maxHeartbeats 8000000 in
theorem law_any (a0 a1 a2 a5 a7 : Int) (a3 a4 a8 : Bool) (pa : Option Addr) (len c0 : Nat) (I : List Int) (w : World) (hI : SlAt w pa len I) (hpn : pa = none → len = 0 ∧ c0 = 0) (hlen : len ≤ 1024) (h5 : 0 ≤ a5) (h5' : a5 ≤ 255) :
    Calls Yba.prog 3 #[.int .u64 a0, .int .u8 a1, .int .u64 a2, .bool a3, .bool a4, .int .u8 a5, .slice pa len c0, .int .u32 a7, .bool a8] w fun e w' => e = .returned (.bool true) ∧ Below w.heap.size w w' := by
  have HI : Hid _ := hI
  have HPN : Hid _ := hpn
  have hl1 : (len : Int) ≤ 1024 := by omega
  clear hI hpn
  go_enter Yba.func3, Yba.ntmps3
  go_upto_if 63 with fail
  go_cut [20] from 63 to 65 (fun v wx => ∃ T : Int, v = .int .u64 T ∧ wx = w)
  case first =>
    cases a3
    · go_wp2_with fail
      go_meet
      case rel => exact ⟨_, rfl, rfl⟩
    · go_wp2_with fail
      go_meet
      case rel => exact ⟨_, rfl, rfl⟩
  case rest =>
    obtain ⟨T, rfl, hw⟩ := hcut
    subst hw
    generalize (bits BinOp.or IntKind.u64 (bits BinOp.and IntKind.u64 a0 1152921504606846975) (IntKind.u64.wrap (IntKind.u64.wrap (bits BinOp.and IntKind.u8 a1 15) * 1152921504606846976))) = word
    go_upto_if 67 with fail
    go_cut [21] from 67 to 69 (fun v wx => ∃ M : Int, v = .int .u64 M ∧ wx = wc ∧ Hid ((a4 = true → word ≠ M) ∧ (a4 = false → M = word)))
    case first =>
      cases a4
      · go_wp2_with fail
        go_meet
        case rel => exact ⟨_, rfl, rfl, (fun h => by cases h), fun _ => rfl⟩
      · go_wp2_with fail
        go_meet
        case rel => exact ⟨_, rfl, rfl, fun _ => wrap_ne word, (fun h => by cases h)⟩
    case rest =>
      obtain ⟨M, rfl, hw, HM⟩ := hcut
      subst hw
      go_upto_if 73 with fail
      go_cut [22, 23] from 70 to 75 (fun v u wx => ∃ sel : Int, v = .int .u8 sel ∧ u = .int .u8 sel ∧ 0 ≤ sel ∧ sel ≤ 2 ∧ wx = wc)
      case first =>
        have hs : a5 % 3 = 0 ∨ a5 % 3 = 1 ∨ a5 % 3 = 2 := by omega
        clear h5 h5'
        generalize a5 % 3 = sel at hs ⊢
        rcases hs with rfl | rfl | rfl
        · go_wp2_with fail
          go_meet
          case rel => exact ⟨0, rfl, rfl, by omega, by omega, rfl⟩
        · go_wp2_with fail
          go_meet
          case rel => exact ⟨1, rfl, rfl, by omega, by omega, rfl⟩
        · go_wp2_with fail
          go_meet
          case rel => exact ⟨2, rfl, rfl, by omega, by omega, rfl⟩
      case rest =>
        obtain ⟨sel, rfl, rfl, hs0, hs2, hw⟩ := hcut
        subst hw
        rename World => w0
        obtain ⟨Z, hz99⟩ := zero99
        go_upto_region 20 with fail
        obtain ⟨i0, hi0, hz0, hz1, hz2⟩ := info_parts info29
        have HB0 : Hid _ := base_made w0 Z a7
        go_cut [24, 25, 26, 27, 28] from 76 to 88 (fun v24 v25 v26 v27 v wx => ∃ tb tb2 rb r2b g, v24 = .pointer (some ⟨tb, 0, none⟩) ∧ v25 = .pointer (some ⟨tb2, 0, none⟩) ∧ v26 = .pointer (some ⟨rb, 0, none⟩) ∧ v27 = .pointer (some ⟨r2b, 0, none⟩) ∧ v = .slice (some ⟨g, 0, none⟩) len len ∧ Hid (Base w0 wx tb tb2 rb r2b a7 ∧ Pr wx g len 0 I ∧ w0.heap.size ≤ g))
        case first =>
          go_wp2_with (at_make; refine wpList_make_full _ rfl (.tmp 87) (.tmp 87) 90 rfl w0.heap.size 29 i0 (.int .u64 0) 1 Yba.underlying90 hi0 hz0 hz1 .i64 .i64 _ _ len rfl rfl rfl rfl (by rw [hz2]; omega) (by unfold maxLen; omega) HB0.out.bel.size ?_; intro w2 hown hgr; have HP : Hid _ := pr_made (I := I) hown; have HB1 : Hid _ := HB0.out.kept (G.of_below (below_none hgr) HB0.out.bel.size); clear hown hgr)
          go_meet
          case rel => exact ⟨_, _, _, _, _, rfl, rfl, rfl, rfl, rfl, HB1.out, by simpa using HP.out, by omega⟩
        case rest =>
          obtain ⟨tb, tb2, rb, r2b, g, rfl, rfl, rfl, rfl, rfl, H2⟩ := hcut
          clear HB0
          go_wp2_with fail
          go_loopw [29] (fun j wr => ∃ k : Nat, k ≤ len ∧ j = .int .i64 k ∧ Hid (Base w0 wr tb tb2 rb r2b a7 ∧ Pr wr g len k I)) (fun j _ => len - (intOf j).toNat)
          case atStart => exact ⟨0, Nat.zero_le _, rfl, H2.out.1, H2.out.2.1⟩
          case round =>
            obtain ⟨k, hk, rfl, H3⟩ := hrel
            by_cases hlt : k < len
            · obtain ⟨x, rfl, hat⟩ := HI.out.at_ (by omega)
              have hj : k < I.length := by rw [HI.out.hl]; exact hlt
              have e1 := hat k hj
              have e2 := (H3.out.1.bel.cell (World.block_lt_of_cell? _ _ e1)).trans e1
              obtain ⟨v, hv⟩ := H3.out.2.cell k hlt
              have hf := H3.out.2.fz k
              have hlt' : (k : Int) < (len : Int) := by omega
              clear hat e1
              go_wp2_with fail
              refine ⟨⟨k + 1, by omega, by simp, ?_⟩, ?_⟩
              · exact ⟨H3.out.1.prSet H3.out.2 H2.out.2.2 _, H3.out.2.step hlt HI.out.hl⟩
              · simp [intOf]; omega
            · have hke : k = len := by omega
              have H4 : Hid (Base w0 wr tb tb2 rb r2b a7 ∧ wr.ownsRow w0.heap.size 29 1 (.slice (some ⟨g, 0, none⟩) len len) len (us I)) := ⟨H3.out.1, (hke ▸ H3.out.2).own HI.out.hl H2.out.2.2 (by unfold maxLen; omega)⟩
              clear hke H3
              go_upto_if 104 with fail
              go_cut [30] from 102 to 136 (fun v wx => ∃ rs mv e2 e1, v = .pointer (some ⟨rs, 0, none⟩) ∧ Hid (R0 w0 wx rs tb tb2 rb r2b g len a7 I mv e2 e1 ∧ ((a8 = true → ∃ v, e2 = some v ∧ wx.ownsRow w0.heap.size 29 1 v 1 [.int .u64 7]) ∧ (a8 = false → e2 = none)) ∧ ((0 < len → e1 = some (.slice (some ⟨g, 0, none⟩) len len)) ∧ (len = 0 → e1 = none))))
              case first =>
                have H5 : Hid _ := r0_made H4.out.1 H4.out.2
                have hmk : ∀ (t : TypeId) (w : World), (Instr.makeMap t none).run Yba.prog w = .ok (.map (some w.heap.size)) (w.alloc (.map #[] 0)) := fun _ _ => rfl
                cases a8
                · by_cases hp : 0 < len
                  · have hp' : (0 : Int) < (len : Int) := by omega
                    go_upto_region 33 with fail
                    have h6 := r0_map H4.out.1 H4.out.2
                    clear H5 hmk
                    generalize (wr.alloc (Obj.cells #[Value.int IntKind.i32 0, Value.int IntKind.u32 0, Value.map (some (wr.heap.size + 1))] 106)).alloc (Obj.map #[] 0) = w4 at h6 ⊢
                    generalize wr.heap.size + 1 = m at h6
                    generalize wr.heap.size = rs at h6 ⊢
                    have H9 : Hid _ := h6
                    clear h6
                    have c1 := H9.out.c_by
                    have q2 := H9.out.base.r_0
                    have q3 := H9.out.base.r_1
                    obtain ⟨es3, ck3, hup3, H10⟩ := (H9.out.below (Below.refl _ _).drew).put1 (.slice (some ⟨g, 0, none⟩) len len)
                    go_wp2_with fail
                    refine wp_noexit ?_
                    go_region
                    have h10 := H10.out
                    have hG10 : G w0.heap.size w4 (putM w4.drew m es3 ck3) := (G.of_below (Below.refl _ _).drew H9.out.lt).trans H10.out.2
                    clear H10 hup3
                    generalize putM w4.drew m es3 ck3 = w5 at h10 hG10 ⊢
                    have H11 : Hid _ := h10
                    have HG11 : Hid _ := hG10
                    clear h10 hG10
                    go_wp2_with fail
                    go_meet
                    case rel => exact ⟨rs, _, _, _, rfl, H11.out.1, ⟨(fun h => by cases h), fun _ => rfl⟩, ⟨fun _ => rfl, fun h => absurd hp (by omega)⟩⟩
                  · have hp' : ¬ (0 : Int) < (len : Int) := by omega
                    have hpd : decide ((0 : Int) < (len : Int)) = false := by simpa using hp'
                    go_wp2_with fail
                    go_meet
                    case rel => exact ⟨_, _, _, _, rfl, H5.out, ⟨(fun h => by cases h), fun _ => rfl⟩, ⟨fun h => absurd h hp, fun _ => rfl⟩⟩
                · go_upto_region 28 with fail
                  have h6 := r0_map H4.out.1 H4.out.2
                  clear H5 hmk
                  generalize (wr.alloc (Obj.cells #[Value.int IntKind.i32 0, Value.int IntKind.u32 0, Value.map (some (wr.heap.size + 1))] 106)).alloc (Obj.map #[] 0) = w3 at h6 ⊢
                  generalize wr.heap.size + 1 = m at h6
                  generalize wr.heap.size = rs at h6 ⊢
                  have H6 : Hid _ := h6
                  clear h6
                  have c0 := H6.out.c_by
                  have q0 := H6.out.base.r2_0
                  have q1 := H6.out.base.r2_1
                  have H7 : Hid _ := H6.out.below (alloc_b w3 (.cells #[.int .u64 7] 29))
                  have c0' := H7.out.c_by
                  have q0' := H7.out.base.r2_0
                  have q1' := H7.out.base.r2_1
                  obtain ⟨es', ck', hup, H8⟩ := (H7.out.below (Below.refl _ _).drew).put2 (.slice (some ⟨w3.heap.size, 0, none⟩) 1 1)
                  have O7 : Hid _ := own_one w3 w0.heap.size 7 H6.out.lt
                  refine wp_noexit ?_
                  go_region
                  have h8 := H8.out
                  have o8 : (putM (w3.alloc (.cells #[.int .u64 7] 29)).drew m es' ck').ownsRow w0.heap.size 29 1 (.slice (some ⟨w3.heap.size, 0, none⟩) 1 1) 1 [.int .u64 7] := own_kept rfl O7.out ((G.of_below (Below.refl _ _).drew H7.out.lt).trans H8.out.2)
                  clear H8 hup O7 c0 c0' q0 q1 q0' q1' H7
                  generalize putM (w3.alloc (.cells #[.int .u64 7] 29)).drew m es' ck' = w4 at h8 o8 ⊢
                  generalize w3.heap.size = v7 at h8 o8 ⊢
                  have H9 : Hid _ := h8.1
                  have O9 : Hid _ := o8
                  clear h8 o8
                  by_cases hp : 0 < len
                  · have hp' : (0 : Int) < (len : Int) := by omega
                    have c1 := H9.out.c_by
                    have q2 := H9.out.base.r_0
                    have q3 := H9.out.base.r_1
                    obtain ⟨es3, ck3, hup3, H10⟩ := (H9.out.below (Below.refl _ _).drew).put1 (.slice (some ⟨g, 0, none⟩) len len)
                    go_wp2_with fail
                    refine wp_noexit ?_
                    go_region
                    have h10 := H10.out
                    have hG10 : G w0.heap.size w4 (putM w4.drew m es3 ck3) := (G.of_below (Below.refl _ _).drew H9.out.lt).trans H10.out.2
                    clear H10 hup3
                    generalize putM w4.drew m es3 ck3 = w5 at h10 hG10 ⊢
                    have H11 : Hid _ := h10
                    have HG11 : Hid _ := hG10
                    clear h10 hG10
                    go_wp2_with fail
                    go_meet
                    case rel => exact ⟨rs, _, _, _, rfl, H11.out.1, ⟨fun _ => ⟨_, rfl, own_kept rfl O9.out HG11.out⟩, (fun h => by cases h)⟩, ⟨fun _ => rfl, fun h => absurd hp (by omega)⟩⟩
                  · have hp' : ¬ (0 : Int) < (len : Int) := by omega
                    have hpd : decide ((0 : Int) < (len : Int)) = false := by simpa using hp'
                    go_wp2_with fail
                    go_meet
                    case rel => exact ⟨_, _, _, _, rfl, H9.out, ⟨fun _ => ⟨_, rfl, O9.out⟩, (fun h => by cases h)⟩, ⟨fun h => absurd h hp, fun _ => rfl⟩⟩
              case rest =>
                obtain ⟨rs, mv, e2, e1, rfl, H12⟩ := hcut
                clear H4 H2 hz0 hz1 hz2 hi0 hs0 hs2
                go_wp2_with fail
                refine (store_any wc.heap.size word (.int .u64 0) _ (by go_simp) (by go_simp)).mono ?_
                rintro e w1 ⟨rfl, hw1⟩
                have H13 : Hid _ := after_store H12.out.1 hw1
                have H14 : Hid _ := hw1
                clear hw1
                go_upto_region 36 with fail
                go_cut [31, 32] from 137 to 146 (fun v31 v wx => ∃ (ref : Nat) (tc : Array Value), v31 = .pointer (some ⟨ref, 0, none⟩) ∧ v = .pointer (some ⟨w1.heap.size, 0, none⟩) ∧ wx = w1.alloc (.cells tc 137) ∧ Hid (ref = wc.heap.size ∧ tc[0]? = some (.int .u64 T) ∧ tc[52]? = some (.slice none 0 0)))
                case first =>
                  go_wp2_with fail
                  go_meet
                  case rel => exact ⟨_, _, rfl, rfl, rfl, rfl, rfl, rfl⟩
                case rest =>
                  obtain ⟨ref, tc, rfl, rfl, rfl, H15⟩ := hcut
                  have HB2 : Hid _ := H13.out.1.base.kept (alloc_g w1 (.cells tc 137) H13.out.1.lt)
                  have q0 := HB2.out.r_0
                  have q1 := HB2.out.r_1
                  go_wp2_with fail
                  refine (claim_law (a4 := a4) (a8 := a8) (word := word) (tid := T) (met := M) (sel := sel) (ref := ref) H13.out.1 (H15.out.1 ▸ H13.out.2.1) (H15.out.1 ▸ H13.out.2.2.1) HI.out.hl hlen HM.out ⟨fun h => (by obtain ⟨v, hv1, hv2⟩ := H12.out.2.1.1 h; exact ⟨v, hv1, own_kept rfl hv2 (G.of_below H13.out.2.2.2 H12.out.1.lt)⟩), H12.out.2.1.2⟩ H12.out.2.2 tc H15.out.2.1 H15.out.2.2).mono ?_
                  rintro e w2 ⟨o, rfl, H16⟩
                  clear q0 q1 HB2 H12 H14
                  go_upto_if 164 with fail
                  go_cut [36, 37, 38, 39, 40, 41, 42] from 161 to 229 (fun v36 v37 v38 v39 v40 v41 v42 wx => ∃ wa wn wk ea en ek, v36 = .slice wa wn wk ∧ v37 = .bool (tkB a4 sel word T I) ∧ v38 = .bool a4 ∧ v39 = .bool (shdB a4 sel word T I) ∧ v40 = .int .u64 (outW a4 sel word T I) ∧ v41 = .bool (outP a4 sel word T I) ∧ v42 = .slice ea en ek ∧ Hid (Want w0 wx rs ref w1.heap.size tb tb2 rb r2b a7 T a8 o (outO a4 sel T I) (shdB a4 sel word T I) (outW a4 sel word T I) (outP a4 sel word T I) (outE a4 sel word T I) wa wn ea en))
                  case first =>
                    have HI2 : Hid _ := HI.out.below H16.out.base.bel
                    have hpl : decide (0 < I.length) = decide (0 < len) := by rw [HI.out.hl]
                    have HPL : Hid _ := hpl
                    clear hpl
                    cases a4
                    · obtain hMw := HM.out.2 rfl
                      subst hMw
                      clear HM
                      by_cases h2 : sel = 2
                      · have h2b : (sel == 2) = true := by simp [h2]
                        have h2c : sel == 2 := h2b
                        by_cases hsh : shB M = true
                        · have hz : (bits .and .u64 M 2305843009213693952 == 0) = false := by
                            have := hsh
                            unfold shB at this
                            simpa using this
                          have HSH : Hid _ := hsh
                          have H2 : Hid _ := h2
                          clear hsh h2
                          go_wp2_with fail
                          refine (has_any pa len c0 I T w2 HI2.out (by omega)).mono ?_
                          rintro e w3 ⟨rfl, hw3⟩
                          obtain rfl := hw3
                          by_cases hin : T ∈ I
                          · have hin1 : decide (T ∈ I) = true := by simpa using hin
                            have hin2 : (!decide (T ∈ I)) = false := by rw [hin1]; rfl
                            have HIN : Hid _ := hin
                            clear hin
                            go_wp2_with fail
                            go_meet
                            case rel =>
                              obtain ⟨v1, v2, v3, v4, v5, v6⟩ := vals_in H2.out HSH.out HIN.out
                              have H16' := H16.out
                              rw [v1, v2, v3, v4, v5, v6, HPL.out] at *
                              exact ⟨_, _, _, _, _, _, rfl, rfl, rfl, rfl, rfl, rfl, rfl, H16', slAt_nil _, ⟨fun _ => rfl, fun _ => rfl⟩, HI2.out⟩
                          · have hin1 : decide (T ∈ I) = false := by simpa using hin
                            have hin2 : (!decide (T ∈ I)) = true := by rw [hin1]; rfl
                            have HIN : Hid _ := hin
                            clear hin
                            obtain ⟨j0, hj0, hy0, hy1, hy2⟩ := info_parts info22
                            go_wp2_with (first | (at_make; refine wpList_make_own _ rfl (.const (.int .i64 0)) (.tmp 178) 23 rfl w3.heap.size 22 j0 (.int .u64 0) 1 Yba.underlying23 hj0 hy0 hy1 .i64 .i64 _ (len + 1) rfl rfl (by simp) (by rw [hy2]; omega) (by unfold maxLen; omega) (Nat.le_refl _) ?_; intro w4 hown4 hgr4; have HO4 : Hid _ := hown4; have HG4 : Hid _ := hgr4; have HI4 : Hid _ := HI2.out.below (below_none hgr4); clear hown4 hgr4) | (at_builtin; refine wpList_append_fits_any _ rfl (.tmp 180) (.tmp 181) 23 rfl w3.heap.size 22 j0 1 Yba.underlying23 hj0 hy1 w3.heap.size 0 (len + 1) [] rfl HO4.out pa len c0 (us I) rfl (by rw [List.length_map, HI4.out.hl]; omega) HPN.out (slAt_cells HI4.out) (ints_oneCell .u64 I) (by omega) ?_; intro w5 hown5 hgr5; have HO5 : Hid _ := own_z hown5; have HG5 : Hid _ := hgr5; clear hown5 hgr5) | (at_builtin; (refine wpList_append_own_at _ rfl (.tmp 183) (.tmp 185) 23 rfl w3.heap.size 22 j0 (.int .u64 0) 1 8 Yba.underlying23 hj0 hy0 hy1 hy2 rfl (by decide) (.slice (some ⟨w3.heap.size, 0, none⟩) len (len + 1)) len (us I) rfl ((show w5.ownsRow w3.heap.size 22 1 (.slice (some ⟨w3.heap.size, 0, none⟩) len (len + 1)) len (us I) from HO5.out).alloc _) ⟨w5.heap.size, 0, none⟩ 1 1 [.int .u64 T] rfl rfl (cell_one_new _ _ _) (ints_oneCell .u64 [T]) (by unfold maxLen; omega) (by omega) (Nat.le_trans (Nat.le_trans HG4.out.size HG5.out.size) (by simp)) ?_); intro v' w6 hown6 hgr6 hnil6 hloc6; obtain ⟨g6, c6, rfl, H6⟩ := pack3 HG4.out HG5.out hgr6 hown6; clear hown6 hgr6 hnil6 hloc6))
                            go_meet
                            case rel =>
                              obtain ⟨v1, v2, v3, v4, v5, v6⟩ := vals_join H2.out HSH.out HIN.out
                              have H16' := H16.out.below H6.out.1
                              rw [v1, v2, v3, v4, v5, v6] at *
                              exact ⟨_, _, _, _, _, _, rfl, rfl, rfl, rfl, rfl, rfl, rfl, H16', slAt_nil _, ⟨fun _ => rfl, fun _ => rfl⟩, H6.out.2⟩
                        · have hsh' : shB M = false := by simpa using hsh
                          have hz : (bits .and .u64 M 2305843009213693952 == 0) = true := by
                            have := hsh'
                            unfold shB at this
                            simpa using this
                          have HSH : Hid _ := hsh'
                          have H2 : Hid _ := h2
                          clear hsh hsh' h2
                          go_wp2_with fail
                          go_meet
                          case rel =>
                            obtain ⟨v1, v2, v3, v4, v5, v6⟩ := vals_ns (T := T) (I := I) H2.out HSH.out
                            have H16' := H16.out.below (alloc_b w2 (.cells #[.int .u64 T] 22))
                            rw [v1, v2, v3, v4, v5, v6] at *
                            exact ⟨_, _, _, _, _, _, rfl, rfl, rfl, rfl, rfl, rfl, rfl, H16', slAt_nil _, ⟨fun _ => rfl, fun _ => rfl⟩, slAt_one _ _ _⟩
                      · have h2b : (sel == 2) = false := by simp [h2]
                        clear h2
                        obtain ⟨j0, hj0, hy0, hy1, hy2⟩ := info_parts info22
                        go_wp2_with fail
                        go_loopw [36, 44] (fun o j wr => ∃ k : Nat, k ≤ len ∧ j = .int .i64 k ∧ Hid (Gat2 w2 wr o (oth I T k))) (fun _ j _ => len - (intOf j).toNat)
                        case atStart => exact ⟨0, Nat.zero_le _, rfl, by simpa [oth] using World.ownsRow_nil _ _ _ _, by simp [oth], Below.refl _ _⟩
                        case round =>
                          obtain ⟨k, hk, rfl, hA⟩ := hrel
                          have hol := oth_le I T k
                          by_cases hlt : k < len
                          · obtain ⟨x, rfl, hat⟩ := HI2.out.at_ (by omega)
                            have hj : k < I.length := by rw [HI2.out.hl]; exact hlt
                            have e3 := hat k hj
                            have e4 := (hA.out.bel.cell (World.block_lt_of_cell? _ _ e3)).trans e3
                            have hlt' : (k : Int) < (len : Int) := by omega
                            have hs := oth_succ (tid := T) hj
                            have hws := hA.out.bel.size
                            clear hat e3
                            by_cases hne : (I[k] != T) = true
                            · rw [if_pos hne] at hs
                              have HSx : Hid _ := hs
                              clear hs
                              go_wp2_with (first | (at_builtin; refine wpList_append_own_at _ rfl _ _ 23 rfl w2.heap.size 22 j0 (.int .u64 0) 1 8 Yba.underlying23 hj0 hy0 hy1 hy2 rfl (by decide) _ _ _ rfl (hA.out.own.alloc _) ⟨wr.heap.size, 0, none⟩ 1 1 [.int .u64 I[k]] rfl rfl (cell_one_new _ _ _) (ints_oneCell .u64 [I[k]]) (by unfold maxLen; omega) (by omega) (by simp; omega) ?_; intro v' w5 hown' hgrow hnil hloc; have H9 : Hid _ := hA.out.step hown' hgrow hnil; clear hown' hgrow hnil hloc))
                              refine ⟨⟨k + 1, by omega, by simp, ?_⟩, ?_⟩
                              · rw [HSx.out]; exact H9
                              · simp [intOf]; omega
                            · have hne' : (I[k] != T) = false := by simpa using hne
                              rw [if_neg hne, List.append_nil] at hs
                              have HSx : Hid _ := hs
                              clear hs hne
                              go_wp2_with fail
                              refine ⟨⟨k + 1, by omega, by simp, ?_⟩, ?_⟩
                              · rw [HSx.out]; exact hA
                              · simp [intOf]; omega
                          · have hke : k = len := by omega
                            have hA' : Hid (Gat2 w2 wr u36 (oth I T len)) := by rw [← hke]; exact hA
                            clear hke hA hol
                            by_cases hFe : oth I T len = []
                            · obtain rfl := hA'.out.nil.2 hFe
                              have HF : Hid _ := hFe
                              clear hFe
                              have hq0 := sl_eq23_nil
                              cases hs1 : (sel == 1 : Bool)
                              · cases c1 : (bits .and .u64 M 9223372036854775808 != 0 : Bool)
                                · have HC1 : Hid _ := c1
                                  cases c3 : (bits .and .u64 M 2305843009213693952 != 0 : Bool)
                                  · have HSH : Hid _ := c3
                                    go_wp2_with fail
                                    go_meet
                                    case rel =>
                                      obtain ⟨v1, v2, v3, v4, v5, v6⟩ := vals_e (word := M) (T := T) (I := I) h2b (by rw [HI.out.hl]; exact HF.out)
                                      have ev := tk_no (sel := sel) (T := T) (fu_no1 HC1.out) HSH.out
                                      have eb : base sel T = T := by unfold base; exact if_neg (by simpa using hs1)
                                      have H16' := H16.out.below hA'.out.bel
                                      rw [v1, v2, v3, v4, v5, v6, ev, eb, HPL.out] at *
                                      exact ⟨_, _, _, _, _, _, rfl, rfl, rfl, rfl, rfl, rfl, rfl, H16', slAt_nil _, ⟨fun _ => rfl, fun _ => rfl⟩, HI2.out.below hA'.out.bel⟩
                                  · have HSH : Hid _ := c3
                                    go_wp2_with fail
                                    go_meet
                                    case rel =>
                                      obtain ⟨v1, v2, v3, v4, v5, v6⟩ := vals_e (word := M) (T := T) (I := I) h2b (by rw [HI.out.hl]; exact HF.out)
                                      have ev := tk_sh (sel := sel) (T := T) (fu_no1 HC1.out) HSH.out
                                      have eb : base sel T = T := by unfold base; exact if_neg (by simpa using hs1)
                                      have H16' := H16.out.below hA'.out.bel
                                      rw [v1, v2, v3, v4, v5, v6, ev, eb, HPL.out] at *
                                      exact ⟨_, _, _, _, _, _, rfl, rfl, rfl, rfl, rfl, rfl, rfl, H16', slAt_nil _, ⟨fun _ => rfl, fun _ => rfl⟩, HI2.out.below hA'.out.bel⟩
                                · have HC1 : Hid _ := c1
                                  cases c2 : (bits .and .u64 M 1152921504606846975 == T : Bool)
                                  · have HC2 : Hid _ := c2
                                    cases c3 : (bits .and .u64 M 2305843009213693952 != 0 : Bool)
                                    · have HSH : Hid _ := c3
                                      go_wp2_with fail
                                      go_meet
                                      case rel =>
                                        obtain ⟨v1, v2, v3, v4, v5, v6⟩ := vals_e (word := M) (T := T) (I := I) h2b (by rw [HI.out.hl]; exact HF.out)
                                        have ev := tk_no (sel := sel) (T := T) (fu_no2 HC2.out) HSH.out
                                        have eb : base sel T = T := by unfold base; exact if_neg (by simpa using hs1)
                                        have H16' := H16.out.below hA'.out.bel
                                        rw [v1, v2, v3, v4, v5, v6, ev, eb, HPL.out] at *
                                        exact ⟨_, _, _, _, _, _, rfl, rfl, rfl, rfl, rfl, rfl, rfl, H16', slAt_nil _, ⟨fun _ => rfl, fun _ => rfl⟩, HI2.out.below hA'.out.bel⟩
                                    · have HSH : Hid _ := c3
                                      go_wp2_with fail
                                      go_meet
                                      case rel =>
                                        obtain ⟨v1, v2, v3, v4, v5, v6⟩ := vals_e (word := M) (T := T) (I := I) h2b (by rw [HI.out.hl]; exact HF.out)
                                        have ev := tk_sh (sel := sel) (T := T) (fu_no2 HC2.out) HSH.out
                                        have eb : base sel T = T := by unfold base; exact if_neg (by simpa using hs1)
                                        have H16' := H16.out.below hA'.out.bel
                                        rw [v1, v2, v3, v4, v5, v6, ev, eb, HPL.out] at *
                                        exact ⟨_, _, _, _, _, _, rfl, rfl, rfl, rfl, rfl, rfl, rfl, H16', slAt_nil _, ⟨fun _ => rfl, fun _ => rfl⟩, HI2.out.below hA'.out.bel⟩
                                  · have HC2 : Hid _ := c2
                                    go_wp2_with fail
                                    go_meet
                                    case rel =>
                                      obtain ⟨v1, v2, v3, v4, v5, v6⟩ := vals_e (word := M) (T := T) (I := I) h2b (by rw [HI.out.hl]; exact HF.out)
                                      have ev := tk_fu (sel := sel) (T := T) HC1.out HC2.out
                                      have eb : base sel T = T := by unfold base; exact if_neg (by simpa using hs1)
                                      have H16' := H16.out.below hA'.out.bel
                                      rw [v1, v2, v3, v4, v5, v6, ev, eb, HPL.out] at *
                                      exact ⟨_, _, _, _, _, _, rfl, rfl, rfl, rfl, rfl, rfl, rfl, H16', slAt_nil _, ⟨fun _ => rfl, fun _ => rfl⟩, HI2.out.below hA'.out.bel⟩
                              · cases c1 : (bits .and .u64 M 9223372036854775808 != 0 : Bool)
                                · have HC1 : Hid _ := c1
                                  cases c3 : (bits .and .u64 M 2305843009213693952 != 0 : Bool)
                                  · have HSH : Hid _ := c3
                                    go_wp2_with fail
                                    go_meet
                                    case rel =>
                                      obtain ⟨v1, v2, v3, v4, v5, v6⟩ := vals_e (word := M) (T := T) (I := I) h2b (by rw [HI.out.hl]; exact HF.out)
                                      have ev := tk_no (sel := sel) (T := T) (fu_no1 HC1.out) HSH.out
                                      have eb : base sel T = bits .or .u64 T 9223372036854775808 := by unfold base; exact if_pos (by simpa using hs1)
                                      have H16' := H16.out.below hA'.out.bel
                                      rw [v1, v2, v3, v4, v5, v6, ev, eb, HPL.out] at *
                                      exact ⟨_, _, _, _, _, _, rfl, rfl, rfl, rfl, rfl, rfl, rfl, H16', slAt_nil _, ⟨fun _ => rfl, fun _ => rfl⟩, HI2.out.below hA'.out.bel⟩
                                  · have HSH : Hid _ := c3
                                    go_wp2_with fail
                                    go_meet
                                    case rel =>
                                      obtain ⟨v1, v2, v3, v4, v5, v6⟩ := vals_e (word := M) (T := T) (I := I) h2b (by rw [HI.out.hl]; exact HF.out)
                                      have ev := tk_sh (sel := sel) (T := T) (fu_no1 HC1.out) HSH.out
                                      have eb : base sel T = bits .or .u64 T 9223372036854775808 := by unfold base; exact if_pos (by simpa using hs1)
                                      have H16' := H16.out.below hA'.out.bel
                                      rw [v1, v2, v3, v4, v5, v6, ev, eb, HPL.out] at *
                                      exact ⟨_, _, _, _, _, _, rfl, rfl, rfl, rfl, rfl, rfl, rfl, H16', slAt_nil _, ⟨fun _ => rfl, fun _ => rfl⟩, HI2.out.below hA'.out.bel⟩
                                · have HC1 : Hid _ := c1
                                  cases c2 : (bits .and .u64 M 1152921504606846975 == T : Bool)
                                  · have HC2 : Hid _ := c2
                                    cases c3 : (bits .and .u64 M 2305843009213693952 != 0 : Bool)
                                    · have HSH : Hid _ := c3
                                      go_wp2_with fail
                                      go_meet
                                      case rel =>
                                        obtain ⟨v1, v2, v3, v4, v5, v6⟩ := vals_e (word := M) (T := T) (I := I) h2b (by rw [HI.out.hl]; exact HF.out)
                                        have ev := tk_no (sel := sel) (T := T) (fu_no2 HC2.out) HSH.out
                                        have eb : base sel T = bits .or .u64 T 9223372036854775808 := by unfold base; exact if_pos (by simpa using hs1)
                                        have H16' := H16.out.below hA'.out.bel
                                        rw [v1, v2, v3, v4, v5, v6, ev, eb, HPL.out] at *
                                        exact ⟨_, _, _, _, _, _, rfl, rfl, rfl, rfl, rfl, rfl, rfl, H16', slAt_nil _, ⟨fun _ => rfl, fun _ => rfl⟩, HI2.out.below hA'.out.bel⟩
                                    · have HSH : Hid _ := c3
                                      go_wp2_with fail
                                      go_meet
                                      case rel =>
                                        obtain ⟨v1, v2, v3, v4, v5, v6⟩ := vals_e (word := M) (T := T) (I := I) h2b (by rw [HI.out.hl]; exact HF.out)
                                        have ev := tk_sh (sel := sel) (T := T) (fu_no2 HC2.out) HSH.out
                                        have eb : base sel T = bits .or .u64 T 9223372036854775808 := by unfold base; exact if_pos (by simpa using hs1)
                                        have H16' := H16.out.below hA'.out.bel
                                        rw [v1, v2, v3, v4, v5, v6, ev, eb, HPL.out] at *
                                        exact ⟨_, _, _, _, _, _, rfl, rfl, rfl, rfl, rfl, rfl, rfl, H16', slAt_nil _, ⟨fun _ => rfl, fun _ => rfl⟩, HI2.out.below hA'.out.bel⟩
                                  · have HC2 : Hid _ := c2
                                    go_wp2_with fail
                                    go_meet
                                    case rel =>
                                      obtain ⟨v1, v2, v3, v4, v5, v6⟩ := vals_e (word := M) (T := T) (I := I) h2b (by rw [HI.out.hl]; exact HF.out)
                                      have ev := tk_fu (sel := sel) (T := T) HC1.out HC2.out
                                      have eb : base sel T = bits .or .u64 T 9223372036854775808 := by unfold base; exact if_pos (by simpa using hs1)
                                      have H16' := H16.out.below hA'.out.bel
                                      rw [v1, v2, v3, v4, v5, v6, ev, eb, HPL.out] at *
                                      exact ⟨_, _, _, _, _, _, rfl, rfl, rfl, rfl, rfl, rfl, rfl, H16', slAt_nil _, ⟨fun _ => rfl, fun _ => rfl⟩, HI2.out.below hA'.out.bel⟩
                            · obtain ⟨g9, c9, rfl⟩ := Go.Joins.ownsRow_form hA'.out.own (List.length_pos_iff.2 hFe)
                              have HF : Hid _ := hFe
                              clear hFe
                              have hq1 := sl_eq23_some
                              go_wp2_with fail
                              go_meet
                              case rel =>
                                obtain ⟨v1, v2, v3, v4, v5, v6⟩ := vals_o (word := M) (T := T) (I := I) h2b (by rw [HI.out.hl]; exact HF.out)
                                have H16' := H16.out.below hA'.out.bel
                                rw [v1, v2, v3, v4, v5, v6, HPL.out] at *
                                rw [HI.out.hl]
                                exact ⟨_, _, _, _, _, _, rfl, rfl, rfl, rfl, rfl, rfl, rfl, by rw [HI.out.hl] at H16'; exact H16', own_slAt22 hA'.out.own, ⟨fun h => (by cases h), fun h => (HF.out h).elim⟩, HI2.out.below hA'.out.bel⟩
                    · go_wp2_with fail
                      go_meet
                      case rel =>
                        refine ⟨_, _, _, _, _, _, rfl, rfl, rfl, rfl, rfl, ?_, rfl, H16.out, slAt_nil _, ⟨fun _ => rfl, fun _ => rfl⟩, HI2.out⟩
                        show Value.bool _ = Value.bool (decide (0 < I.length))
                        rw [HPL.out]
                  case rest =>
                    obtain ⟨wa, wn, wk, ea, en, ek, rfl, rfl, rfl, rfl, rfl, rfl, rfl, H17⟩ := hcut
                    clear H16
                    have hOl := outO_le a4 sel T I
                    have hEl := outE_le a4 sel word T I
                    rw [HI.out.hl] at hOl hEl
                    generalize tkB a4 sel word T I = TK
                    generalize shdB a4 sel word T I = SH at H17 ⊢
                    generalize outW a4 sel word T I = WW at H17 ⊢
                    generalize outP a4 sel word T I = PP at H17 ⊢
                    generalize outO a4 sel T I = OO at H17 hOl
                    generalize outE a4 sel word T I = EE at H17 hEl
                    obtain ⟨oa, on, oc, rfl, hO, hOn⟩ := H17.out.fin.others
                    have hlw := H17.out.wo.hl
                    have hlo := hO.hl
                    have hon : on = wn := by omega
                    subst hon
                    have hni : oa.isNone = wa.isNone := by
                      have h1 := H17.out.wnil
                      cases oa <;> cases wa <;> simp_all
                    have HO : Hid _ := hO
                    have HLO : Hid _ := hlo
                    have HBs : Hid _ := H17.out.fin.base
                    obtain ⟨mv', tv, f2, f1, hC⟩ := H17.out.fin.chk
                    have HC : Hid _ := hC
                    have HW2 : Hid _ := H17.out.wo
                    have HE2 : Hid _ := H17.out.en_
                    have hq1 := sl_eq90 oa on oc
                    have hq2 := sl_eq23 wa on wk
                    have hon9 : on ≤ 2000 := by omega
                    have hee : en ≤ 2000 := by have := HE2.out.hl; omega
                    clear hO hlw hlo hOn hC H17 hOl hEl
                    go_wp2_with fail
                    go_loopw [46] (fun j wr => ∃ k q : Nat, k ≤ on ∧ j = .int .i64 k ∧ wr = wc.drewN q) (fun j _ => on - (intOf j).toNat)
                    case atStart => exact ⟨0, 0, Nat.zero_le _, rfl, rfl⟩
                    case round =>
                      obtain ⟨k2, q, hk2, rfl, rfl⟩ := hrel
                      by_cases hlt2 : k2 < on
                      · obtain ⟨x, rfl, hat⟩ := HO.out.at_ (by omega)
                        obtain ⟨y, rfl, hbt⟩ := HW2.out.at_ (by omega)
                        have hj : k2 < OO.length := by rw [HLO.out]; exact hlt2
                        have e1 := hat k2 hj
                        have e2' := hbt k2 hj
                        have hlt' : (k2 : Int) < (on : Int) := by omega
                        clear hat hbt
                        go_wp2_with fail
                        go_quiet (fail)
                        go_wp2_with fail
                        refine ⟨⟨k2 + 1, _, by omega, by simp, rfl⟩, ?_⟩
                        simp [intOf]; omega
                      · have cref := HC.out.ref_
                        go_wp2_with fail
                        refine (aload_any ref WW _ (by go_simp)).mono ?_
                        rintro e w9 ⟨rfl, hw9⟩
                        obtain rfl := hw9
                        go_upto_if 271 with fail
                        go_cut [] from 271 to 293 (fun wx => ∃ q2 : Nat, wx = wc.drewN q2)
                        case first =>
                          cases SH
                          · have htv := HC.out.sh0 rfl
                            subst htv
                            have ct := HC.out.tsh
                            go_wp2_with fail
                            go_meet
                            case rel => first | exact ⟨_, rfl⟩ | exact ⟨q + nq, by simp⟩
                          · obtain ⟨g9, c9, htv, t0, t1⟩ := HC.out.sh1 rfl
                            subst htv
                            have ct := HC.out.tsh
                            have r0 := HBs.out.r_0
                            have r1 := HBs.out.r_1
                            have hne := neq_kv tb a7
                            have hgd := guard_kv
                            go_wp2_with fail
                            go_quiet (fail)
                            go_wp2_with fail
                            go_meet
                            case rel => first | exact ⟨_, rfl⟩ | exact ⟨q + nq, by simp⟩
                        case rest =>
                          obtain ⟨q2, rfl⟩ := hcut
                          go_upto_if 294 with fail
                          go_cut [47] from 294 to 311 (fun v wx => ∃ q3 : Nat, v = .int .i64 (f2.toList.length : Nat) ∧ wx = wc.drewN q3)
                          case first =>
                            cases a8
                            · have hf2 := HC.out.m0 rfl
                              subst hf2
                              go_wp2_with fail
                              go_meet
                              case rel => first | exact ⟨_, rfl, rfl⟩ | exact ⟨q2 + nq, rfl, by simp⟩
                            · obtain ⟨g9, c9, hf2, c7⟩ := HC.out.m1 rfl
                              subst hf2
                              have r0 := HBs.out.r2_0
                              have r1 := HBs.out.r2_1
                              have cb := HC.out.by_
                              have hlk : ∀ q, (Instr.lookup 104 mv' (.agg #[.pointer (some ⟨tb2, 0, none⟩), .int .u32 a7]) false).run Yba.prog (wc.drewN q) = .ok (.slice (some ⟨g9, 0, none⟩) 1 c9) (wc.drewN q) := fun q => lookup2 (w := wc.drewN q) (HC.out.two.keep fun _ _ _ => rfl) (HC.out.mf.keep fun _ _ _ _ => rfl) false
                              go_wp2_with fail
                              go_quiet (fail)
                              go_wp2_with fail
                              go_meet
                              case rel => first | exact ⟨_, rfl, rfl⟩ | exact ⟨q2 + nq, rfl, by simp⟩
                          case rest =>
                            obtain ⟨q3, rfl, rfl⟩ := hcut
                            have r0 := HBs.out.r_0
                            have r1 := HBs.out.r_1
                            have cb := HC.out.by_
                            have hlk : ∀ q, (Instr.lookup 104 mv' (.agg #[.pointer (some ⟨tb, 0, none⟩), .int .u32 a7]) true).run Yba.prog (wc.drewN q) = .ok (.tuple #[vOf f1, .bool f1.isSome]) (wc.drewN q) := fun q => lookup1 (w := wc.drewN q) (HC.out.two.keep fun _ _ _ => rfl) (HC.out.mf.keep fun _ _ _ _ => rfl) true
                            have hlen_ : ∀ q, (Builtin.len_ #[104] 3 #[mv']).run Yba.prog (wc.drewN q) = .ok (.int .i64 ((f2.toList.length + f1.toList.length : Nat) : Int)) (wc.drewN q) := fun q => len_map (w := wc.drewN q) (HC.out.mf.keep fun _ _ _ _ => rfl)
                            have hf2l : f2.toList.length ≤ 1 := by cases f2 <;> simp
                            cases PP
                            · have hf1 := HC.out.p0 rfl
                              subst hf1
                              have hlk' : ∀ q, (Instr.lookup 104 mv' (.agg #[.pointer (some ⟨tb, 0, none⟩), .int .u32 a7]) true).run Yba.prog (wc.drewN q) = .ok (.tuple #[.slice none 0 0, .bool false]) (wc.drewN q) := hlk
                              clear hlk
                              go_wp2_with fail
                              go_quiet (fail)
                              go_wp2_with fail
                              go_ret
                              exact ⟨by simp, below_drewN HBs.out.bel _⟩
                            · obtain ⟨va, vl, vk, hf1, hE⟩ := HC.out.p1 rfl
                              subst hf1
                              have hlk' : ∀ q, (Instr.lookup 104 mv' (.agg #[.pointer (some ⟨tb, 0, none⟩), .int .u32 a7]) true).run Yba.prog (wc.drewN q) = .ok (.tuple #[.slice va vl vk, .bool true]) (wc.drewN q) := hlk
                              clear hlk
                              have hvl : vl = en := by have := hE.hl; have := HE2.out.hl; omega
                              subst hvl
                              have HE : Hid _ := hE
                              clear hE
                              go_wp2_with fail
                              go_quiet (fail)
                              go_wp2_with fail
                              go_loopw [51] (fun j wr => ∃ k q : Nat, k ≤ vl ∧ j = .int .i64 k ∧ wr = wc.drewN q) (fun j _ => vl - (intOf j).toNat)
                              case atStart => exact ⟨0, _, Nat.zero_le _, rfl, rfl⟩
                              case round =>
                                obtain ⟨k3, q4, hk3, rfl, rfl⟩ := hrel
                                by_cases hlt3 : k3 < vl
                                · obtain ⟨x, rfl, hat⟩ := HE.out.at_ (by omega)
                                  obtain ⟨y, rfl, hbt⟩ := HE2.out.at_ (by omega)
                                  have hj : k3 < EE.length := by rw [HE2.out.hl]; exact hlt3
                                  have e1' := hat k3 hj
                                  have e2' := hbt k3 hj
                                  have hlt' : (k3 : Int) < (vl : Int) := by omega
                                  clear hat hbt
                                  go_wp2_with fail
                                  go_quiet (fail)
                                  go_wp2_with fail
                                  refine ⟨⟨k3 + 1, _, by omega, by simp, rfl⟩, ?_⟩
                                  simp [intOf]; omega
                                · go_wp2_with fail
                                  go_ret
                                  exact ⟨by simp, below_drewN HBs.out.bel _⟩
end Go.Proofs.Ybulkdlw.Claim
