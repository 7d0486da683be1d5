import Derived.Test.YbulkdfzeLawDL
import Derived.Deep.AppendLies
namespace Go.Proofs.Ybulkdfze
open Go Go.RowKit Go.Lib Go.Shelf
set_option maxRecDepth 1000000 in
set_option maxHeartbeats 8000000 in
theorem phaseK (D : LD) (I : LI) (J : LB) (J2 : LC) (J3 : LH) (X : LX) (TB : Nat) (tao : Option Addr) (tc CHb CVb : Nat) (a : Act) (w : World) (HS : SL D I J J2 J3 X true a) (HS2 : SG TB tao tc D a) (HS3 : SH D CHb CVb a) (HZ : FZ D I J J2 J3 w) (HG : FG D TB tao w) (HH : FH D CHb CVb w)
    (next : ∀ v a' w', SL D I J J2 J3 X true a' → a'.tmps[70]? = some v → WI w (D.want I J J2 J3 X 4) v w' → Code.wp Yba.prog (C3 Yba.f3 45) (LQ D) a' w') : Code.wp Yba.prog (C3 Yba.f3 43) (LQ D) a w := by
  obtain ⟨u, hu, rfl⟩ := frame_of a HS.sa.hs HS.sa.hd
  have e5 := hu 5 _ HS.sa.s5
  have e8 := hu 8 _ HS.sa.s8
  have e10 := hu 10 _ HS.sa.s10
  have e13 := hu 13 _ HS.sa.s13
  have e14 := hu 14 _ HS.sa.s14
  have e15 := hu 15 _ HS.sa.s15
  have e16 := hu 16 _ HS.sa.s16
  have e17 := hu 17 _ HS.sa.s17
  have e19 := hu 19 _ HS.sa.s19
  have e20 := hu 20 _ HS.sb.s20
  have e21 := hu 21 _ HS.sb.s21
  have e22 := hu 22 _ HS.sb.s22
  have e28 := hu 28 _ HS.sc.s28
  have e29 := hu 29 _ HS.sc.s29
  have e35 := hu 35 _ HS.sd.s35
  have e36 := hu 36 _ HS.sd.s36
  have e37 := hu 37 _ HS.sd.s37
  have e42 := hu 42 _ HS.sx.s42
  have e43 := hu 43 _ HS.sx.s43
  have e45 := hu 45 _ HS.sx.s45
  have e46 := hu 46 _ HS.sx.s46
  have e47 := hu 47 _ HS.sx.s47
  have e51 := hu 51 _ HS2.s51
  have e52 := hu 52 _ HS2.s52
  have e55 := hu 55 _ HS3.s55
  have e56 := hu 56 _ HS3.s56
  have e57 := hu 57 _ HS3.s57
  have HN := unhalt next
  clear next HS2 HS3
  clear hu HS
  conv => arg 2; whnf
  unfold frame
  simp only [e5, e8, e10, e13, e14, e15, e16, e17, e19, e20, e21, e22, e28, e29, e35, e36, e37, e42, e43, e45, e46, e47, e51, e52, e55, e56, e57]
  have fa := HZ.fa
  have tl := T_len D
  have W0 : WI w (D.want I J J2 J3 X 0) (.slice none 0 0) w := ⟨Keep.refl _ _, [], World.ownsRow_nil .., rfl⟩
  obtain ⟨sn, hsn⟩ : ∃ x, x = nameB (D.self % 5).toNat := ⟨_, rfl⟩
  rw [← hsn]
  have HSN := unhalt hsn
  clear hsn
  obtain ⟨i71, hi71, hy⟩ := Option.map_eq_some_iff.1 info71
  obtain ⟨hy0, hy1, hy2⟩ : i71.zero.isSome = true ∧ i71.size = 3 ∧ i71.bytes = 56 := by simpa using hy
  obtain ⟨zv, hzv⟩ := Option.isSome_iff_exists.1 hy0
  have hzs : zv.cells.size = 3 := by have := zero71; rw [hi71] at this; simpa [hzv] using this
  clear hy hy0
  have H71 := unhalt (⟨hi71, hzv, hy1, hy2, hzs⟩ : _ ∧ _ ∧ _ ∧ _ ∧ _)
  clear hi71 hzv hy1 hy2 hzs
  obtain ⟨tn, htn⟩ : ∃ x, x = D.T.length := ⟨_, rfl⟩
  rw [← htn]
  have HTN := unhalt htn
  clear htn
  have tn4 : tn ≤ 4 := by rw [HTN.out]; exact tl
  clear tl
  go_upto_block 26 with fail
  go_cut [70, 71, 72, 74, 76, 77, 78, 79] from 649 to 732 (fun v _ _ _ _ _ _ _ wx => WI w (D.want I J J2 J3 X 4) v wx)
  case first =>
    go_wp2_with fail
    go_loopw [70, 71] (fun v c wr => ∃ j : Nat, j ≤ 4 ∧ c = .int .i64 j ∧ WI w (D.want I J J2 J3 X j) v wr) (fun _ v _ => 4 - (intOf v).toNat)
    case atStart => exact ⟨0, by omega, rfl, W0⟩
    case round =>
      obtain ⟨j, hj, rfl, hW⟩ := hrel
      clear W0
      by_cases hj4 : j < 4
      · have hj1 : (j : Int) < 4 := by omega
        have hj5 : (j : Int) < 5 := by omega
        have hj0 : (0 : Int) ≤ (j : Int) := by omega
        have kr := hW.1
        have cC := (kr.blk HH.hCH (by simp)).cell j
        rw [bl_get _ j hj4] at cC
        have lC := (kr.blk HH.hCH (by simp)).lt
        have cT := (kr.blk HG.hTB (by simp)).cell j
        rw [bl_get _ j hj4] at cT
        have lT := (kr.blk HG.hTB (by simp)).lt
        have HWE := unhalt (⟨want_succ D I J J2 J3 X j, wantJ_eq D I J J2 J3 X j hj4⟩ : _ ∧ _)
        cases hch : D.ch j with
        | false =>
          rw [hch] at cC
          have hfin : WI w (D.want I J J2 J3 X (j + 1)) u70 wr := by rw [HWE.out.1, HWE.out.2, if_neg (by simp [hch]), List.append_nil]; exact hW
          clear hW HWE
          go_wp2
          exact ⟨⟨j + 1, by omega, by go_num, hfin⟩, by simp [intOf]; omega⟩
        | true =>
          rw [hch] at cC
          cases htr : D.tr j with
          | true =>
            rw [htr] at cT
            have hfin : WI w (D.want I J J2 J3 X (j + 1)) u70 wr := by rw [HWE.out.1, HWE.out.2, if_pos hch, if_pos htr, List.append_nil]; exact hW
            clear hW HWE
            go_wp2
            exact ⟨⟨j + 1, by omega, by go_num, hfin⟩, by simp [intOf]; omega⟩
          | false =>
            rw [htr] at cT
            have HWJ := unhalt (show D.wantJ I J J2 J3 X j = if D.fnm j ≠ nameB (D.self % 5).toNat then [] else D.wk j D.T.length by rw [HWE.out.2, if_pos hch, if_neg (by simp [htr])])
            go_upto_block 28 with fail
            go_cut [72, 74] from 664 to 680 (fun f _ wx => f = .string (D.fnm j) ∧ Keep [] wr wx)
            case first =>
              go_wp2_with fail
              go_loopw [72, 664] (fun f c wq => ∃ k : Nat, k ≤ tn ∧ c = .int .i64 k ∧ f = .string ⟨#[]⟩ ∧ Keep [] wr wq ∧ Hid (∀ i, i < k → ∀ x, D.T[i]? = some x → D.sv x j ≠ D.cv j)) (fun _ v _ => tn - (intOf v).toNat)
              case atStart => exact ⟨0, Nat.zero_le _, rfl, rfl, Keep.refl _ _, by intro k hk; omega⟩
              case round =>
                obtain ⟨k, hk, rfl, rfl, km, HNO⟩ := hrel
                by_cases hkt : k < tn
                · obtain ⟨t, ht⟩ : ∃ t, D.T[k]? = some t := ⟨D.T[k]'(by have := HTN.out; omega), List.getElem?_eq_getElem (by have := HTN.out; omega)⟩
                  obtain ⟨t4, _, tp, _⟩ := T_lt ht
                  obtain ⟨ad, had⟩ : ∃ ad, tao = some ad := by
                    cases hh : tao with
                    | none => have := HG.hT.1 hh; simp [ints] at this; rw [this] at ht; simp at ht
                    | some ad => exact ⟨ad, rfl⟩
                  subst had
                  have kq := kr.trans km (by simp)
                  have xT := kq.cell (HG.hT.2 ad rfl k (.int .i64 (t : Int)) (by simp [ints, ht])) (by simp)
                  have xS := (kq.blk HZ.hSQ (by simp)).cell (t * 4 + j)
                  rw [row16_get _ _ (by omega)] at xS
                  have e1 : (t * 4 + j) / 4 = t := by omega
                  have e2 : (t * 4 + j) % 4 = j := by omega
                  rw [e1, e2] at xS
                  clear e1 e2
                  have xV := (kq.blk HH.hCV (by simp)).cell j
                  rw [ul_get _ j hj4] at xV
                  have lS := (kq.blk HZ.hSQ (by simp)).lt
                  have lV := (kq.blk HH.hCV (by simp)).lt
                  have ht1 : (t : Int) < 4 := by omega
                  have ht5 : (t : Int) < 5 := by omega
                  have ht0 : (0 : Int) ≤ (t : Int) := by omega
                  go_upto_region 158 with fail
                  go_quiet (fail)
                  have kq2 := kq.drewN nq
                  have km2 := km.drewN nq
                  have xN := (kq2.blk fa.hNM (by simp)).cell t
                  rw [names_get t (by omega)] at xN
                  have lN := (kq2.blk fa.hNM (by simp)).lt
                  by_cases hc : D.sv t j = D.cv j
                  · have hcb : (D.sv t j == D.cv j) = true := by simpa using hc
                    have HFN := unhalt (fnm_some D j k t ht hc HNO.out)
                    clear hc
                    go_wp2
                    go_meet
                    case rel => exact ⟨by rw [HFN.out], km2⟩
                  · have hcb : (D.sv t j == D.cv j) = false := by simpa using hc
                    have HJ : Hid (∀ i, i < k + 1 → ∀ x, D.T[i]? = some x → D.sv x j ≠ D.cv j) := unhalt fun i hi x hx => by
                      by_cases h : i < k
                      · exact HNO.out i h x hx
                      · obtain rfl : i = k := by omega
                        rw [ht] at hx
                        cases hx
                        exact hc
                    clear HNO ht
                    go_wp2
                    exact ⟨⟨k + 1, by omega, by go_num, by first | rfl | trivial, km2, HJ⟩, by simp [intOf]; omega⟩
                · have HFN := unhalt (fnm_none D j fun i hi => HNO.out i (by have := HTN.out; omega))
                  go_wp2
                  go_meet
                  case rel => exact ⟨by rw [HFN.out], km⟩
            case rest =>
              obtain ⟨rfl, km⟩ := hcut
              have hW1 := hW.keep km
              clear cC cT lC lT hW kr
              obtain ⟨fn, hfn⟩ : ∃ x, x = D.fnm j := ⟨_, rfl⟩
              rw [← hfn]
              have HFN := unhalt hfn
              clear hfn
              by_cases hfs : fn = sn
              · have q : (fn.toList == sn.toList) = true := by simp [hfs]
                have HWK := unhalt (show D.wantJ I J J2 J3 X j = D.wk j D.T.length by rw [HWJ.out, if_neg (by rw [← HFN.out, ← HSN.out, hfs]; simp)])
                clear HWJ HFN hfs km
                have hWa : WI w (D.want I J J2 J3 X j ++ D.wk j 0) u70 wc := by simpa [LD.wk] using hW1
                go_wp2_with fail
                go_loopw [70, 686] (fun v c wq => ∃ k : Nat, k ≤ tn ∧ c = .int .i64 k ∧ WI w (D.want I J J2 J3 X j ++ D.wk j k) v wq) (fun _ v _ => tn - (intOf v).toNat)
                case atStart => exact ⟨0, Nat.zero_le _, rfl, hWa⟩
                case round =>
                  obtain ⟨k, hk, rfl, hV⟩ := hrel
                  clear hWa hW1
                  by_cases hkt : k < tn
                  · obtain ⟨t, ht⟩ : ∃ t, D.T[k]? = some t := ⟨D.T[k]'(by have := HTN.out; omega), List.getElem?_eq_getElem (by have := HTN.out; omega)⟩
                    obtain ⟨t4, _, tp, _⟩ := T_lt ht
                    obtain ⟨ad, had⟩ : ∃ ad, tao = some ad := by
                      cases hh : tao with
                      | none => have := HG.hT.1 hh; simp [ints] at this; rw [this] at ht; simp at ht
                      | some ad => exact ⟨ad, rfl⟩
                    subst had
                    have HKS := unhalt (wk_succ D j k t ht)
                    have hll : (D.want I J J2 J3 X j ++ D.wk j k).length ≤ 160 := by
                      have h1 := want_len D I J J2 J3 X j (by omega)
                      have h2 := wk_len D j k
                      simp; omega
                    obtain ⟨L, hL⟩ : ∃ L, L = D.want I J J2 J3 X j ++ D.wk j k := ⟨_, rfl⟩
                    rw [← hL] at hV hll
                    have HHL := unhalt hL
                    clear hL
                    have xT := hV.1.cell (HG.hT.2 ad rfl k (.int .i64 (t : Int)) (by simp [ints, ht])) (by simp)
                    have ht1 : (t : Int) < 4 := by omega
                    have ht5 : (t : Int) < 5 := by omega
                    have ht0 : (0 : Int) ≤ (t : Int) := by omega
                    obtain ⟨n, hn⟩ : ∃ n, n = D.kk j := ⟨_, rfl⟩
                    have kk8 : n < 8 := by rw [hn]; exact D.kk_lt j
                    have HHN := unhalt hn
                    clear hn ht
                    have hVa : WI w (L ++ D.wt j t 0) u70 wr := by simpa [LD.wt, msgs, pick] using hV
                    clear hV
                    go_wp2_with fail
                    go_loopw [70, 77] (fun v c wq => ∃ s : Nat, s ≤ n ∧ c = .int .i64 ((s : Int) + 1) ∧ WI w (L ++ D.wt j t s) v wq) (fun _ v _ => 9 - (intOf v).toNat)
                    case atStart => exact ⟨0, Nat.zero_le _, rfl, hVa⟩
                    case round =>
                      obtain ⟨s, hs, rfl, hU⟩ := hrel
                      clear hVa xT
                      have ku := hU.1
                      have xK := (ku.blk HZ.hKC (by simp)).cell j
                      rw [il_get _ _ hj4, ← HHN.out] at xK
                      have lK := (ku.blk HZ.hKC (by simp)).lt
                      by_cases hsn : s < n
                      · have hsn1 : (s : Int) + 1 ≤ (n : Int) := by omega
                        have hs8 : (s : Int) + 1 < 9 := by omega
                        have xS := (ku.blk HZ.hSQ (by simp)).cell (t * 4 + j)
                        rw [row16_get _ _ (by omega)] at xS
                        have e1 : (t * 4 + j) / 4 = t := by omega
                        have e2 : (t * 4 + j) % 4 = j := by omega
                        rw [e1, e2] at xS
                        clear e1 e2
                        have xV := (ku.blk HH.hCV (by simp)).cell j
                        rw [ul_get _ j hj4] at xV
                        have lS := (ku.blk HZ.hSQ (by simp)).lt
                        have lV := (ku.blk HH.hCV (by simp)).lt
                        have HMS := unhalt (show D.wt j t (s + 1) = D.wt j t s ++ if D.sv t j < (s : Int) + 1 ∧ (s : Int) + 1 ≤ D.cv j then [(nameB t, fwd vone (nameB j) ((s : Int) + 1) [.int .u8 ((s : Int) + 1), .int .u8 (97 + (j : Int))])] else [] from msgs_succ ..)
                        have hlen : (L ++ D.wt j t s).length ≤ 168 := by
                          have := wt_len D j t s
                          rw [List.length_append]; omega
                        by_cases hlo : D.sv t j < (s : Int) + 1
                        · by_cases hhi : (s : Int) + 1 ≤ D.cv j
                          · have HME := unhalt (show L ++ D.wt j t (s + 1) = (L ++ D.wt j t s) ++ [(nameB t, [.int .u8 2, .int .u8 118, .int .u8 49, .int .u8 1, .int .u8 (97 + (j : Int)), .int .u8 ((s : Int) + 1), .int .u8 2, .int .u8 ((s : Int) + 1), .int .u8 (97 + (j : Int))])] by rw [HMS.out, if_pos ⟨hlo, hhi⟩, fwd_eq j hj4, List.append_assoc])
                            clear HMS
                            obtain ⟨M, hM⟩ : ∃ M, M = L ++ D.wt j t s := ⟨_, rfl⟩
                            rw [← hM] at hU hlen
                            have HMM := unhalt hM
                            clear hM
                            obtain ⟨_, xs, ho, hse⟩ := hU
                            have xN := (ku.blk fa.hNM (by simp)).cell j
                            rw [names_get j (by omega)] at xN
                            have xNt := (ku.blk fa.hNM (by simp)).cell t
                            rw [names_get t (by omega)] at xNt
                            have lN := (ku.blk fa.hNM (by simp)).lt
                            have hns := nameB_size j
                            have hnf := nameB_first j (by omega)
                            go_wp2_with (at_builtin; refine halt ?_)
                            refine unhalt ?_
                            clear hnf hns xN xNt lN xS xV lS lV xK lK
                            have ka : Keep [] wr (((wr.alloc (.cells #[.string (nameB t)] 9)).alloc (.cells #[.int .u8 2, .int .u8 118, .int .u8 49, .int .u8 1, .int .u8 (97 + (j : Int)), .int .u8 ((s : Int) + 1), .int .u8 2, .int .u8 ((s : Int) + 1), .int .u8 (97 + (j : Int))] 5)).alloc (.cells #[.int .u8 9, .slice (some ⟨wr.heap.size, 0, none⟩) 1 1, .slice (some ⟨wr.heap.size + 1, 0, none⟩) 9 9] 71)) := (((Keep.refl [] wr).alloc _).alloc _).alloc _
                            have b1 : Blk (((wr.alloc (.cells #[.string (nameB t)] 9)).alloc (.cells #[.int .u8 2, .int .u8 118, .int .u8 49, .int .u8 1, .int .u8 (97 + (j : Int)), .int .u8 ((s : Int) + 1), .int .u8 2, .int .u8 ((s : Int) + 1), .int .u8 (97 + (j : Int))] 5)).alloc (.cells #[.int .u8 9, .slice (some ⟨wr.heap.size, 0, none⟩) 1 1, .slice (some ⟨wr.heap.size + 1, 0, none⟩) 9 9] 71)) wr.heap.size 9 [.string (nameB t)] := ((Blk.new wr #[.string (nameB t)] 9).alloc _).alloc _
                            have b2 : Blk (((wr.alloc (.cells #[.string (nameB t)] 9)).alloc (.cells #[.int .u8 2, .int .u8 118, .int .u8 49, .int .u8 1, .int .u8 (97 + (j : Int)), .int .u8 ((s : Int) + 1), .int .u8 2, .int .u8 ((s : Int) + 1), .int .u8 (97 + (j : Int))] 5)).alloc (.cells #[.int .u8 9, .slice (some ⟨wr.heap.size, 0, none⟩) 1 1, .slice (some ⟨wr.heap.size + 1, 0, none⟩) 9 9] 71)) (wr.heap.size + 1) 5 [.int .u8 2, .int .u8 118, .int .u8 49, .int .u8 1, .int .u8 (97 + (j : Int)), .int .u8 ((s : Int) + 1), .int .u8 2, .int .u8 ((s : Int) + 1), .int .u8 (97 + (j : Int))] := (Blk.new' (wr.alloc (.cells #[.string (nameB t)] 9)) #[.int .u8 2, .int .u8 118, .int .u8 49, .int .u8 1, .int .u8 (97 + (j : Int)), .int .u8 ((s : Int) + 1), .int .u8 2, .int .u8 ((s : Int) + 1), .int .u8 (97 + (j : Int))] 5 (wr.heap.size + 1) (by simp)).alloc _
                            have b3 : Blk (((wr.alloc (.cells #[.string (nameB t)] 9)).alloc (.cells #[.int .u8 2, .int .u8 118, .int .u8 49, .int .u8 1, .int .u8 (97 + (j : Int)), .int .u8 ((s : Int) + 1), .int .u8 2, .int .u8 ((s : Int) + 1), .int .u8 (97 + (j : Int))] 5)).alloc (.cells #[.int .u8 9, .slice (some ⟨wr.heap.size, 0, none⟩) 1 1, .slice (some ⟨wr.heap.size + 1, 0, none⟩) 9 9] 71)) (wr.heap.size + 2) 71 [.int .u8 9, .slice (some ⟨wr.heap.size, 0, none⟩) 1 1, .slice (some ⟨wr.heap.size + 1, 0, none⟩) 9 9] := Blk.new' ((wr.alloc (.cells #[.string (nameB t)] 9)).alloc (.cells #[.int .u8 2, .int .u8 118, .int .u8 49, .int .u8 1, .int .u8 (97 + (j : Int)), .int .u8 ((s : Int) + 1), .int .u8 2, .int .u8 ((s : Int) + 1), .int .u8 (97 + (j : Int))] 5)) #[.int .u8 9, .slice (some ⟨wr.heap.size, 0, none⟩) 1 1, .slice (some ⟨wr.heap.size + 1, 0, none⟩) 9 9] 71 (wr.heap.size + 2) (by simp)
                            have o4 := owns_keep ho ka (by simp)
                            generalize (((wr.alloc (.cells #[.string (nameB t)] 9)).alloc (.cells #[.int .u8 2, .int .u8 118, .int .u8 49, .int .u8 1, .int .u8 (97 + (j : Int)), .int .u8 ((s : Int) + 1), .int .u8 2, .int .u8 ((s : Int) + 1), .int .u8 (97 + (j : Int))] 5)).alloc (.cells #[.int .u8 9, .slice (some ⟨wr.heap.size, 0, none⟩) 1 1, .slice (some ⟨wr.heap.size + 1, 0, none⟩) 9 9] 71)) = wd at ka b1 b2 b3 o4 ⊢
                            obtain ⟨hi71, hzv, hy1, hy2, hzs⟩ := H71.out
                            refine wpList_append_own _ rfl (.tmp 717) (.tmp 730) 65 rfl w.heap.size 71 i71 zv 3 56 Yba.underlying65 hi71 hzv hy1 hy2 hzs (by decide) u70 M.length xs rfl o4 ⟨wr.heap.size + 2, 0, none⟩ 1 1 [.int .u8 9, .slice (some ⟨wr.heap.size, 0, none⟩) 1 1, .slice (some ⟨wr.heap.size + 1, 0, none⟩) 9 9] rfl rfl ?_ (by simp [Value.oneCell']) (by unfold maxLen; omega) (by omega) (Nat.le_trans ku.size ka.size) ?_
                            · intro k u hk
                              rw [Addr.add_lit, b3.cell (0 + k), Nat.zero_add]; exact hk
                            intro v5 w5 o5 hg5 _
                            have hfin : WI w (L ++ D.wt j t (s + 1)) v5 w5 := by
                              rw [HME.out, ← HMM.out]
                              exact WI.snoc ku hse ka o4 b1 b2 o5 hg5
                            have HFI := unhalt hfin
                            clear hfin o5 hg5 o4 b1 b2 b3 ka ku ho hse HME HMM hi71 hzv hy1 hy2 hzs
                            go_wp2
                            exact ⟨⟨s + 1, by omega, by go_num, HFI.out⟩, by simp [intOf]; omega⟩
                          · have hfin : WI w (L ++ D.wt j t (s + 1)) u70 wr := by rw [HMS.out, if_neg (fun h => hhi h.2), List.append_nil]; exact hU
                            clear hU HMS
                            go_wp2
                            exact ⟨⟨s + 1, by omega, by go_num, hfin⟩, by simp [intOf]; omega⟩
                        · have hfin : WI w (L ++ D.wt j t (s + 1)) u70 wr := by rw [HMS.out, if_neg (fun h => hlo h.1), List.append_nil]; exact hU
                          clear hU HMS
                          go_wp2
                          exact ⟨⟨s + 1, by omega, by go_num, hfin⟩, by simp [intOf]; omega⟩
                      · obtain rfl : s = n := by omega
                        rw [HHN.out, HHL.out, List.append_assoc, ← HKS.out] at hU
                        go_wp2
                        exact ⟨⟨k + 1, by omega, by go_num, hU⟩, by simp [intOf]; omega⟩
                  · obtain rfl : k = tn := by omega
                    rw [HTN.out, ← HWK.out, ← HWE.out.1] at hV
                    clear HWK HWE
                    go_wp2
                    exact ⟨⟨j + 1, by omega, by go_num, hV⟩, by simp [intOf]; omega⟩
              · have q : (fn.toList == sn.toList) = false := beq_eq_false_iff_ne.2 fun e => hfs (bytes_ext e)
                have hfin : WI w (D.want I J J2 J3 X (j + 1)) u70 wc := by
                  rw [HWE.out.1, HWJ.out, if_pos (by rw [← HFN.out, ← HSN.out]; exact hfs), List.append_nil]; exact hW1
                clear hW1 HWE HWJ HFN hfs km
                go_wp2
                exact ⟨⟨j + 1, by omega, by go_num, hfin⟩, by simp [intOf]; omega⟩
      · obtain rfl : j = 4 := by omega
        go_wp2
        go_meet
        case rel => exact hW
  case rest =>
    rename_i hK
    have hnn := HTN.out
    have hss := HSN.out
    subst hnn hss
    exact hK _ _ (HN.out _ _ _ ⟨⟨rfl, rfl, rfl, rfl, rfl, rfl, rfl, rfl, rfl, rfl, rfl⟩, ⟨rfl, rfl, rfl⟩, ⟨rfl, rfl⟩, ⟨rfl, rfl, rfl⟩, ⟨rfl, rfl, rfl, rfl, rfl⟩⟩ rfl hcut)
end Go.Proofs.Ybulkdfze
