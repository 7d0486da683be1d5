import Derived.Test.YbulkdfzeLawDH
namespace Go.Proofs.Ybulkdfze
open Go Go.RowKit Go.Lib Go.Shelf
def HI1 (D : LD) (w : World) (CHb CVb j k : Nat) (wr : World) : Prop :=
  Keep [] w wr ∧ Blk wr CHb 22 (bl fun i => (decide (i < j) && D.ch i) || (decide (i = j) && D.chP j k)) ∧ Blk wr CVb 35 (ul fun i => if i < j then D.cv i else if i = j then D.cvP j k else 0)

set_option maxRecDepth 1000000 in
set_option maxHeartbeats 8000000 in
theorem phaseH (D : LD) (H : D.Ok) (I : LI) (J : LB) (J2 : LC) (J3 : LH) (X : LX) (TB : Nat) (tao : Option Addr) (tc : Nat) (a : Act) (w : World) (HS : SL D I J J2 J3 X true a) (HS2 : SG TB tao tc D a) (HZ : FZ D I J J2 J3 w) (HG : FG D TB tao w)
    (next : ∀ CHb CVb a' w', SL D I J J2 J3 X true a' → SG TB tao tc D a' → SH D CHb CVb a' → Keep [] w w' → FH D CHb CVb w' → Code.wp Yba.prog (C3 Yba.f3 37) (LQ D) a' w') : Code.wp Yba.prog (C3 Yba.f3 33) (LQ D) a w := by
  obtain ⟨u, hu, rfl⟩ := frame_of a HS.sa.hs HS.sa.hd
  have e5 := hu 5 _ HS.sa.s5
  have e8 := hu 8 _ HS.sa.s8
  have e10 := hu 10 _ HS.sa.s10
  have e13 := hu 13 _ HS.sa.s13
  have e14 := hu 14 _ HS.sa.s14
  have e15 := hu 15 _ HS.sa.s15
  have e16 := hu 16 _ HS.sa.s16
  have e17 := hu 17 _ HS.sa.s17
  have e19 := hu 19 _ HS.sa.s19
  have e20 := hu 20 _ HS.sb.s20
  have e21 := hu 21 _ HS.sb.s21
  have e22 := hu 22 _ HS.sb.s22
  have e28 := hu 28 _ HS.sc.s28
  have e29 := hu 29 _ HS.sc.s29
  have e35 := hu 35 _ HS.sd.s35
  have e36 := hu 36 _ HS.sd.s36
  have e37 := hu 37 _ HS.sd.s37
  have e42 := hu 42 _ HS.sx.s42
  have e43 := hu 43 _ HS.sx.s43
  have e45 := hu 45 _ HS.sx.s45
  have e46 := hu 46 _ HS.sx.s46
  have e47 := hu 47 _ HS.sx.s47
  have e51 := hu 51 _ HS2.s51
  have e52 := hu 52 _ HS2.s52
  have HN := unhalt next
  clear next HS2
  clear hu HS
  conv => arg 2; whnf
  unfold frame
  simp only [e5, e8, e10, e13, e14, e15, e16, e17, e19, e20, e21, e22, e28, e29, e35, e36, e37, e42, e43, e45, e46, e47, e51, e52]
  have fa := HZ.fa
  have W0 : HI1 D w w.heap.size (w.heap.size + 1) 0 0 ((w.alloc (.cells #[.bool false, .bool false, .bool false, .bool false] 22)).alloc (.cells #[.int .u64 0, .int .u64 0, .int .u64 0, .int .u64 0] 35)) := by
    refine ⟨((Keep.refl [] w).alloc _).alloc _, ((Blk.new w _ 22).alloc _).cast (by simp [bl, LD.chP]), (Blk.new' _ _ _ _ (by simp)).cast (by simp [ul, LD.cvP])⟩
  go_upto_block 18 with fail
  generalize ((w.alloc (.cells #[.bool false, .bool false, .bool false, .bool false] 22)).alloc (.cells #[.int .u64 0, .int .u64 0, .int .u64 0, .int .u64 0] 35)) = wA at W0 ⊢
  obtain ⟨CHb, hCH⟩ : ∃ x, x = w.heap.size := ⟨_, rfl⟩
  obtain ⟨CVb, hCV⟩ : ∃ x, x = w.heap.size + 1 := ⟨_, rfl⟩
  rw [← hCV, ← hCH] at W0 ⊢
  have i1 : w.heap.size ≤ CHb := by omega
  have i2 : w.heap.size ≤ CVb := by omega
  have i3 : CHb ≠ CVb := by omega
  clear hCH hCV
  have tl := T_len D
  go_cut [57, 58, 60] from 456 to 499 (fun c _ _ wx => c = .int .i64 ((pickN D.ch 4).length : Int) ∧ HI1 D w CHb CVb 4 0 wx)
  case first =>
    go_wp2_with fail
    go_loopw [57, 58] (fun ct c wr => ∃ j : Nat, j ≤ 4 ∧ c = .int .i64 j ∧ ct = .int .i64 ((pickN D.ch j).length : Int) ∧ HI1 D w CHb CVb j 0 wr) (fun _ v _ => 4 - (intOf v).toNat)
    case atStart => exact ⟨0, by omega, rfl, rfl, W0⟩
    case round =>
      obtain ⟨j, hj, rfl, rfl, hW⟩ := hrel
      clear W0
      by_cases hj4 : j < 4
      · have hj1 : (j : Int) < 4 := by omega
        have hj0 : (0 : Int) ≤ (j : Int) := by omega
        have hcl := pickN_len D.ch j
        obtain ⟨w1, w2, w3⟩ := id hW
        have cO := (fa.keep w1).hIO.cell j
        rw [bl_get _ j hj4] at cO
        have lIO := (fa.keep w1).hIO.lt
        have hps := pickN_succ D.ch j
        have HPS := unhalt hps
        clear hps
        cases hO : D.O j with
        | false =>
          rw [hO] at cO
          have hc : D.ch j = false := by simp [LD.ch, hO]
          have hv : D.cv j = 0 := by simp [LD.cv, hO]
          have hfin : HI1 D w CHb CVb (j + 1) 0 wr := by
            refine ⟨w1, w2.cast (bl_congr fun i _ => ?_), w3.cast (ul_congr fun i _ => ?_)⟩
            · by_cases hij : i = j
              · subst hij; simp [LD.chP, hc]
              · by_cases h2 : i < j
                · simp [hij, h2, show i < j + 1 by omega, LD.chP]
                · simp [hij, h2, show ¬ i < j + 1 by omega, LD.chP]
            · by_cases h2 : i < j
              · simp [h2, show i < j + 1 by omega]
              · by_cases hij : i = j
                · subst hij; simp [LD.cvP, hv]
                · simp [h2, hij, show ¬ i < j + 1 by omega, LD.cvP]
          have hpe : (pickN D.ch (j + 1)).length = (pickN D.ch j).length := by rw [HPS.out, hc]; simp
          have HPE := unhalt hpe
          clear hpe w1 w2 w3 hW
          go_wp2
          exact ⟨⟨j + 1, by omega, by go_num, by rw [HPE.out], hfin⟩, by simp [intOf]; omega⟩
        | true =>
          rw [hO] at cO
          go_upto_block 20 with fail
          go_cut [60] from 466 to 494 (fun _ wx => HI1 D w CHb CVb j D.T.length wx)
          case first =>
            go_wp2_with fail
            go_loopw [466] (fun c wq => ∃ k : Nat, k ≤ D.T.length ∧ c = .int .i64 k ∧ HI1 D w CHb CVb j k wq) (fun v _ => D.T.length - (intOf v).toNat)
            case atStart => exact ⟨0, by omega, rfl, hW⟩
            case round =>
              obtain ⟨k, hk, rfl, hV⟩ := hrel
              clear hW
              by_cases hkT : k < D.T.length
              · obtain ⟨t, ht⟩ : ∃ t, D.T[k]? = some t := ⟨D.T[k], List.getElem?_eq_getElem hkT⟩
                obtain ⟨t4, _, tp, _⟩ := T_lt ht
                obtain ⟨v1, v2, v3⟩ := id hV
                obtain ⟨ad, had⟩ : ∃ ad, tao = some ad := by
                  cases hh : tao with
                  | none => have := HG.hT.1 hh; simp [ints] at this; rw [this] at ht; simp at ht
                  | some ad => exact ⟨ad, rfl⟩
                subst had
                have cT := v1.cell (HG.hT.2 ad rfl k (.int .i64 (t : Int)) (by simp [ints, ht])) (by simp)
                obtain ⟨_, _, _, r3⟩ := H.hrp t t4
                obtain ⟨x3, _⟩ := r3 j hj4
                have cH := (fa.keep v1).hRP.cell (t * 11 + 3 + j)
                rw [x3] at cH
                have lRP := (fa.keep v1).hRP.lt
                have ht1 : (t : Int) < 4 := by omega
                have ht0 : (0 : Int) ≤ (t : Int) := by omega
                have hcs := chP_succ D j k t ht
                have hvs := cvP_succ D j k t ht
                have HCS := unhalt hcs
                have HVS := unhalt hvs
                clear hcs hvs r3 x3 ht
                cases hh : D.has t j with
                | false =>
                  rw [hh] at cH
                  have hfin : HI1 D w CHb CVb j (k + 1) wr := ⟨v1, by rw [HCS.out, hh]; simpa using v2, by rw [HVS.out]; simpa [LD.stp, hh] using v3⟩
                  clear v1 v2 v3 hV
                  go_wp2
                  exact ⟨⟨k + 1, by omega, by go_num, hfin⟩, by simp [intOf]; omega⟩
                | true =>
                  rw [hh] at cH
                  have cC := v2.cell j
                  rw [bl_get _ j hj4] at cC
                  have fC := v2.free j
                  have lC := v2.lt
                  have v2' := v2.set j (.bool true)
                  have v3' : Blk (wr.setCell ⟨CHb, j, none⟩ (.bool true)) CVb 35 _ := v3.set_other ⟨CHb, j, none⟩ (.bool true) (fun e => i3 e.symm)
                  have k1 : Keep [CHb] wr (wr.setCell ⟨CHb, j, none⟩ (.bool true)) := (Keep.refl _ wr).setCell _ _ (by simp)
                  have SQr := k1.blk (v1.blk HZ.hSQ (by simp)) (by simp; have := HZ.hSQ.lt; omega)
                  have K1 : Keep [] w (wr.setCell ⟨CHb, j, none⟩ (.bool true)) := v1.trans k1 (fun x hx hlt => by simp at hx; omega)
                  have v2a : Blk (wr.setCell ⟨CHb, j, none⟩ (.bool true)) CHb 22 (bl fun i => (decide (i < j) && D.ch i) || (decide (i = j) && D.chP j (k + 1))) := v2'.cast (by
                    rw [bl_set _ j hj4]
                    refine bl_congr fun i _ => ?_
                    by_cases hij : i = j
                    · subst hij; simp [HCS.out, hh]
                    · simp [hij])
                  go_upto_region 115 with fail
                  generalize wr.setCell ⟨CHb, j, none⟩ (.bool true) = wb at v2a v3' SQr K1 ⊢
                  clear v2 v2' v3 hV k1 v1 cC fC lC cT cH
                  have cS := SQr.cell (t * 4 + j)
                  rw [row16_get _ _ (by omega)] at cS
                  have e1 : (t * 4 + j) / 4 = t := by omega
                  have e2 : (t * 4 + j) % 4 = j := by omega
                  rw [e1, e2] at cS
                  have cV := v3'.cell j
                  rw [ul_get _ j hj4] at cV
                  simp only [Nat.lt_irrefl, if_false, if_true] at cV
                  have fV := v3'.free j
                  have lS := SQr.lt
                  have lV := v3'.lt
                  clear e1 e2
                  go_quiet (fail)
                  have kq := (Keep.refl [] wb).drewN nq
                  have cVq := kq.cell cV (by simp)
                  have cSq := kq.cell cS (by simp)
                  have v3q := kq.blk v3' (by simp)
                  have v2q := kq.blk v2a (by simp)
                  have Kq := K1.trans kq (by simp)
                  generalize wb.drewN nq = wq at kq cVq cSq v3q v2q Kq ⊢
                  have fVq := v3q.free j
                  have lVq := v3q.lt
                  have lSq : J.SQ < wq.heap.size := block_lt_of_cell cSq
                  clear v3' v2a SQr K1 cV cS fV lS lV kq
                  by_cases hgt : D.cvP j k < D.sv t j
                  · have hfin : HI1 D w CHb CVb j (k + 1) (wq.setCell ⟨CVb, j, none⟩ (.int .u64 (D.sv t j))) := by
                      refine ⟨Kq.setCell _ _ (fun h => by exfalso; dsimp only at h; omega), v2q.set_other _ _ (by exact i3), (v3q.set j _).cast ?_⟩
                      rw [ul_set _ j hj4]
                      refine ul_congr fun i _ => ?_
                      by_cases hij : i = j
                      · subst hij; simp [HVS.out, LD.stp, hh]; omega
                      · simp [hij]
                    have HFI := unhalt hfin
                    clear hfin v2q v3q Kq
                    go_wp2
                    exact ⟨⟨k + 1, by omega, by go_num, HFI.out⟩, by simp [intOf]; omega⟩
                  · have hfin : HI1 D w CHb CVb j (k + 1) wq := by
                      refine ⟨Kq, v2q, v3q.cast (ul_congr fun i _ => ?_)⟩
                      by_cases hij : i = j
                      · subst hij; simp [HVS.out, LD.stp, hh]; omega
                      · simp [hij]
                    have HFI := unhalt hfin
                    clear hfin v2q v3q Kq
                    go_wp2
                    exact ⟨⟨k + 1, by omega, by go_num, HFI.out⟩, by simp [intOf]; omega⟩
              · obtain rfl : k = D.T.length := by omega
                go_wp2
                go_meet
                case rel => exact hV
          case rest =>
            obtain ⟨v1, v2, v3⟩ := hcut
            have hc : D.ch j = D.chP j D.T.length := by simp [LD.ch, hO]
            have hv : D.cv j = D.cvP j D.T.length := by simp [LD.cv, hO]
            have cC := v2.cell j
            rw [bl_get _ j hj4] at cC
            simp only [Nat.lt_irrefl, decide_false, Bool.false_and, Bool.false_or, decide_true, Bool.true_and] at cC
            rw [← hc] at cC
            have lC := v2.lt
            have hfin : HI1 D w CHb CVb (j + 1) 0 wc := by
              refine ⟨v1, v2.cast (bl_congr fun i _ => ?_), v3.cast (ul_congr fun i _ => ?_)⟩
              · by_cases hij : i = j
                · subst hij; simp [hc, LD.chP]
                · by_cases h2 : i < j
                  · simp [hij, h2, show i < j + 1 by omega, LD.chP]
                  · simp [hij, h2, show ¬ i < j + 1 by omega, LD.chP]
              · by_cases h2 : i < j
                · simp [h2, show i < j + 1 by omega]
                · by_cases hij : i = j
                  · subst hij; simp [hv]
                  · simp [h2, hij, show ¬ i < j + 1 by omega, LD.cvP]
            have HFI := unhalt hfin
            clear hfin v1 v2 v3 hW hv
            cases hcc : D.ch j with
            | false =>
              rw [hcc] at cC
              have hpe : (pickN D.ch (j + 1)).length = (pickN D.ch j).length := by rw [HPS.out, hcc]; simp
              have HPE := unhalt hpe
              clear hpe hc
              go_wp2
              exact ⟨⟨j + 1, by omega, by go_num, by rw [HPE.out], HFI.out⟩, by simp [intOf]; omega⟩
            | true =>
              rw [hcc] at cC
              have hpe : (pickN D.ch (j + 1)).length = (pickN D.ch j).length + 1 := by rw [HPS.out, hcc]; simp
              have HPE := unhalt hpe
              clear hpe hc
              go_wp2
              exact ⟨⟨j + 1, by omega, by go_num, by rw [HPE.out]; go_num, HFI.out⟩, by simp [intOf]; omega⟩
      · obtain rfl : j = 4 := by omega
        go_wp2
        go_meet
        case rel => exact ⟨rfl, hW⟩
  case rest =>
    obtain ⟨rfl, w1, w2, w3⟩ := hcut
    rename_i hK
    refine hK _ _ (HN.out CHb CVb _ _ ⟨⟨rfl, rfl, rfl, rfl, rfl, rfl, rfl, rfl, rfl, rfl, rfl⟩, ⟨rfl, rfl, rfl⟩, ⟨rfl, rfl⟩, ⟨rfl, rfl, rfl⟩, ⟨rfl, rfl, rfl, rfl, rfl⟩⟩ ⟨rfl, rfl⟩ ⟨rfl, rfl, rfl⟩ w1 ⟨w2.cast (bl_congr fun i hi => ?_), w3.cast (ul_congr fun i hi => ?_)⟩)
    · simp [hi, LD.chP]
    · simp [hi]
end Go.Proofs.Ybulkdfze
