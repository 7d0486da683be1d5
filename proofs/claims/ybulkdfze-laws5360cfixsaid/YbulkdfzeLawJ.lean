import Derived.Test.YbulkdfzeLawDJ
namespace Go.Proofs.Ybulkdfze
open Go Go.RowKit Go.Lib Go.Shelf
set_option maxRecDepth 1000000 in
set_option maxHeartbeats 8000000 in
theorem phaseJ (D : LD) (H : D.Ok) (I : LI) (J : LB) (J2 : LC) (J3 : LH) (X : LX) (TB : Nat) (tao : Option Addr) (tc CHb CVb : Nat) (cutv : ByteArray → Int) (ec : List Value) (junk : List Value) (bo : Option Nat) (a : Act) (w : World) (HS : SL D I J J2 J3 X true a) (HS2 : SG TB tao tc D a) (HS3 : SH D CHb CVb a) (HZ : FZ D I J J2 J3 w) (HH : FH D CHb CVb w) (HI : HsIs D J3.hs)
    (hcut : ∀ j, j < 4 → cutv (nameB j) = D.cv j) (hE : Blk w X.E 109 ec) (eh42 : ec[42]? = some (.slice (some ⟨J3.HR, 0, none⟩) (stay cutv J3.hs).length D.held.length)) (hR : Blk w J3.HR 64 (flat vone (stay cutv J3.hs) ++ junk)) (hD : Dels 0 w X.DB bo ((gone cutv J3.hs).map (dcells vone)))
    (next : ∀ a' w', SL D I J J2 J3 X true a' → SG TB tao tc D a' → SH D CHb CVb a' → Keep [] w w' → Code.wp Yba.prog (C3 Yba.f3 43) (LQ D) a' w') : Code.wp Yba.prog (C3 Yba.f3 39) (LQ D) a w := by
  obtain ⟨u, hu, rfl⟩ := frame_of a HS.sa.hs HS.sa.hd
  have e5 := hu 5 _ HS.sa.s5
  have e8 := hu 8 _ HS.sa.s8
  have e10 := hu 10 _ HS.sa.s10
  have e13 := hu 13 _ HS.sa.s13
  have e14 := hu 14 _ HS.sa.s14
  have e15 := hu 15 _ HS.sa.s15
  have e16 := hu 16 _ HS.sa.s16
  have e17 := hu 17 _ HS.sa.s17
  have e19 := hu 19 _ HS.sa.s19
  have e20 := hu 20 _ HS.sb.s20
  have e21 := hu 21 _ HS.sb.s21
  have e22 := hu 22 _ HS.sb.s22
  have e28 := hu 28 _ HS.sc.s28
  have e29 := hu 29 _ HS.sc.s29
  have e35 := hu 35 _ HS.sd.s35
  have e36 := hu 36 _ HS.sd.s36
  have e37 := hu 37 _ HS.sd.s37
  have e42 := hu 42 _ HS.sx.s42
  have e43 := hu 43 _ HS.sx.s43
  have e45 := hu 45 _ HS.sx.s45
  have e46 := hu 46 _ HS.sx.s46
  have e47 := hu 47 _ HS.sx.s47
  have e51 := hu 51 _ HS2.s51
  have e52 := hu 52 _ HS2.s52
  have e55 := hu 55 _ HS3.s55
  have e56 := hu 56 _ HS3.s56
  have e57 := hu 57 _ HS3.s57
  have HN := unhalt next
  clear next HS2 HS3
  clear hu HS
  conv => arg 2; whnf
  unfold frame
  simp only [e5, e8, e10, e13, e14, e15, e16, e17, e19, e20, e21, e22, e28, e29, e35, e36, e37, e42, e43, e45, e46, e47, e51, e52, e55, e56, e57]
  have fa := HZ.fa
  obtain ⟨n, hn⟩ : ∃ n, n = D.held.length := ⟨_, rfl⟩
  have hn2 : n ≤ 1024 := by rw [hn]; exact H.lheld
  have HNN := unhalt hn
  rw [← hn] at eh42 ⊢
  clear hn
  obtain ⟨ng, hng⟩ : ∃ x, x = (gone cutv J3.hs).length := ⟨_, rfl⟩
  obtain ⟨ns, hns⟩ : ∃ x, x = (stay cutv J3.hs).length := ⟨_, rfl⟩
  have HNG := unhalt hng
  have HNS := unhalt hns
  obtain ⟨dv, xs, hD1, hD2, hD3⟩ := hD
  rw [List.length_map, ← hng] at hD2
  rw [← hns] at eh42
  have hngl : ng ≤ 1024 := by rw [hng]; have := gone_len cutv J3.hs; have := HI.1; have := HNN.out; omega
  have hnsl : ns ≤ n := by rw [hns]; have := stay_len cutv J3.hs; have := HI.1; have := HNN.out; omega
  clear hng hns
  obtain ⟨dao, dcap, rfl⟩ : ∃ dao dcap, dv = .slice dao ng dcap := by
    rcases hD2.2 with ⟨h1, h2⟩ | ⟨g, cap, cur, h1, _⟩
    · exact ⟨none, 0, by rw [h1, h2]⟩
    · exact ⟨_, cap, h1⟩
  have cDB : w.cell? ⟨X.DB, 0, none⟩ = some (.slice dao ng dcap) := hD1.cell 0
  have cE := (hE.cell 42).trans eh42
  have HCUT := unhalt hcut
  clear hcut
  go_upto_block 24 with fail
  go_cut [64, 65, 66, 67, 68, 69] from 543 to 635 (fun di ri _ _ _ _ wx => di = .int .i64 (ng : Int) ∧ ri = .int .i64 (ns : Int) ∧ Keep [] w wx)
  case first =>
    go_wp2_with fail
    go_loopw [64, 65, 543] (fun di ri c wr => ∃ k : Nat, k ≤ n ∧ c = .int .i64 k ∧ di = .int .i64 ((gone cutv (J3.hs.take k)).length : Int) ∧ ri = .int .i64 ((stay cutv (J3.hs.take k)).length : Int) ∧ Keep [] w wr) (fun _ _ v _ => n - (intOf v).toNat)
    case atStart => exact ⟨0, by omega, rfl, rfl, rfl, Keep.refl _ _⟩
    case round =>
      obtain ⟨k, hk, rfl, rfl, rfl, kr⟩ := hrel
      by_cases hkn : k < n
      · obtain ⟨q, hq⟩ : ∃ q, D.held[k]? = some q := ⟨D.held[k]'(by have := HNN.out; omega), List.getElem?_eq_getElem (by have := HNN.out; omega)⟩
        obtain ⟨p, hp⟩ : ∃ p, J3.hs[k]? = some p := ⟨J3.hs[k]'(by have := HNN.out; have := HI.1; omega), List.getElem?_eq_getElem (by have := HNN.out; have := HI.1; omega)⟩
        obtain ⟨p1, p2, p3, p4⟩ := HI.2 k p q hp hq
        have hfi := fi_lt q
        have hcv : cutv p.1 = D.cv (fiOf q) := by rw [p1]; exact HCUT.out _ hfi
        have xF := (kr.blk HZ.hHF (by simp)).cell k
        rw [froms_get hq] at xF
        have xQ := (kr.blk HZ.hHQ (by simp)).cell k
        rw [seqs_get hq] at xQ
        have xV := (kr.blk HH.hCV (by simp)).cell (fiOf q)
        rw [ul_get _ _ hfi] at xV
        have xN := (kr.blk fa.hNM (by simp)).cell (fiOf q)
        rw [names_get _ (by omega)] at xN
        have m2 := (kr.blk HZ.hHF (by simp)).lt
        have m3 := (kr.blk HZ.hHQ (by simp)).lt
        have m4 := (kr.blk fa.hNM (by simp)).lt
        have m5 := (kr.blk HH.hCV (by simp)).lt
        have hf5 : ((fiOf q : Nat) : Int) < 5 := by omega
        have hf4 : ((fiOf q : Nat) : Int) < 4 := by omega
        have hf0 : (0 : Int) ≤ ((fiOf q : Nat) : Int) := by omega
        have ht1 := take_succ_of hp
        have cD' := kr.cell cDB (by simp)
        have m6 : X.DB < wr.heap.size := block_lt_of_cell cD'
        have cE' := kr.cell cE (by simp)
        have m7 : X.E < wr.heap.size := block_lt_of_cell cE'
        by_cases hle : q.2 % 10 ≤ D.cv (fiOf q)
        · have hple : p.2.1 ≤ cutv p.1 := by rw [p2, hcv]; exact hle
          have hga := gone_at cutv hp hple
          have hgl : (gone cutv (J3.hs.take k)).length < ng := by have := (List.getElem?_eq_some_iff.1 hga).1; have := HNG.out; omega
          have eg : (gone cutv (J3.hs.take (k + 1))).length = (gone cutv (J3.hs.take k)).length + 1 := by rw [ht1]; simp [gone, hple]
          have es : (stay cutv (J3.hs.take (k + 1))).length = (stay cutv (J3.hs.take k)).length := by rw [ht1]; simp [stay, hple]
          obtain ⟨mg, mc, md, y0, y1, y2, y3, yb⟩ := hD3.get (p := dcells vone p) (by rw [List.getElem?_map, hga]; rfl)
          have EG := unhalt eg
          have ES := unhalt es
          obtain ⟨di, hdi⟩ : ∃ x, x = (gone cutv (J3.hs.take k)).length := ⟨_, rfl⟩
          rw [← hdi] at hgl y0 y1 y2 y3 ⊢
          have HDI := unhalt hdi
          clear hdi eg es hga ht1
          obtain ⟨dg, rfl⟩ : ∃ g, dao = some ⟨g, 0, none⟩ := by
            rcases hD2.2 with ⟨h1, h2⟩ | ⟨g, cap, cur, h1, _⟩
            · omega
            · cases h1; exact ⟨g, rfl⟩
          have dcell : ∀ i u, xs[i]? = some u → wr.cell? ⟨dg, i, none⟩ = some u := fun i u hu => by
            have := hD2.cells (g := dg) rfl i u hu
            rw [Addr.add_lit, Nat.zero_add] at this
            exact kr.cell this (by simp)
          simp only [dcells] at y0 y1 y2 y3 yb
          rw [p1] at y1
          rw [p2] at y2
          rw [p3, p4] at yb
          have z0 := dcell _ _ y0
          have z1 := dcell _ _ y1
          have z2 := dcell _ _ y2
          have z3 := dcell _ _ y3
          have m8 : dg < wr.heap.size := block_lt_of_cell z0
          unfold vone at z0
          simp only [List.length_cons, List.length_nil, Nat.zero_add] at z3
          have Yb := kr.blk yb (by simp)
          have hgl1 : ((di : Nat) : Int) < ((ng : Nat) : Int) := by omega
          clear dcell y0 y1 y2 y3 yb p1 p2 p3 p4 hp hq hcv hple
          have kA : Keep [] wr (wr.alloc (.cells #[.string ⟨#[118, 49]⟩, .string (nameB (fiOf q)), .int .u64 (q.2 % 10), .slice (some ⟨mg, 0, none⟩) 2 mc] 74)) := (Keep.refl [] wr).alloc _
          have bA := Blk.new' wr #[.string ⟨#[118, 49]⟩, .string (nameB (fiOf q)), .int .u64 (q.2 % 10), .slice (some ⟨mg, 0, none⟩) 2 mc] 74 wr.heap.size rfl
          go_upto_region 140 with fail
          generalize wr.alloc (.cells #[.string ⟨#[118, 49]⟩, .string (nameB (fiOf q)), .int .u64 (q.2 % 10), .slice (some ⟨mg, 0, none⟩) 2 mc] 74) = wd at kA bA ⊢
          obtain ⟨db, hdb⟩ : ∃ x, x = wr.heap.size := ⟨_, rfl⟩
          rw [← hdb] at bA ⊢
          clear hdb z0 z1 z2 z3 cD' cE' xF xQ xV
          have Nd := kA.blk (kr.blk fa.hNM (by simp)) (by simp)
          have Yd := kA.blk Yb (by simp)
          have hq0 : 0 ≤ q.2 % 10 := by omega
          have hq1 : q.2 % 10 < 256 := by omega
          have hwr := wrap_u8 (q.2 % 10) hq0 hq1
          have hnsz := nameB_size (fiOf q)
          have hnf := nameB_first (fiOf q) (by omega)
          have SK : ∀ w', Keep [] wd w' → w'.cell? ⟨db, 0, none⟩ = some (.string ⟨#[118, 49]⟩) ∧ w'.cell? ⟨db, 1, none⟩ = some (.string (nameB (fiOf q))) ∧ w'.cell? ⟨db, 2, none⟩ = some (.int .u64 (q.2 % 10)) ∧ w'.cell? ⟨db, 3, none⟩ = some (.slice (some ⟨mg, 0, none⟩) 2 mc) ∧ w'.cell? ⟨I.NM, fiOf q, none⟩ = some (.string (nameB (fiOf q))) := fun w' k => by
            have hb := k.blk bA (by simp)
            have hn := (k.blk Nd (by simp)).cell (fiOf q)
            rw [names_get _ (by omega)] at hn
            exact ⟨hb.cell 0, hb.cell 1, hb.cell 2, hb.cell 3, hn⟩
          have S0 := SK wd.drew (Keep.refl [] wd).drew
          have HEQ := unhalt (fun (w1 : World) (k : Keep [] wd w1) (bb : Nat) (hb : Blk w1 bb 5 [.int .u8 (q.2 % 10), .int .u8 (97 + (fiOf q : Int))]) => (equal_bytes (some ⟨mg, 0, none⟩) (some ⟨bb, 0, none⟩) 2 mc 2 [q.2 % 10, 97 + (fiOf q : Int)] w1 (by omega) (Rd.of_blk (k.blk Yd (by simp)) 0 _ (fun i u hi => by
              rw [Nat.zero_add]
              exact (List.getElem?_append_left (List.getElem?_eq_some_iff.1 hi).1).trans hi)) (Rd.of_blk hb 0 _ (by simp)) rfl).mono (R' := fun e w' => e = .returned (.bool true) ∧ Hid (Keep [] wd w') ∧ w'.cell? ⟨db, 0, none⟩ = some (.string ⟨#[118, 49]⟩) ∧ w'.cell? ⟨db, 1, none⟩ = some (.string (nameB (fiOf q))) ∧ w'.cell? ⟨db, 2, none⟩ = some (.int .u64 (q.2 % 10)) ∧ w'.cell? ⟨db, 3, none⟩ = some (.slice (some ⟨mg, 0, none⟩) 2 mc) ∧ w'.cell? ⟨I.NM, fiOf q, none⟩ = some (.string (nameB (fiOf q)))) (by
            rintro e w' ⟨rfl, k2⟩
            have k3 := k.trans k2 (by simp)
            exact ⟨rfl, k3, SK w' k3⟩))
          have hz0 := @List.getElem?_cons_zero Field
          have hzs := @List.getElem?_cons_succ Field
          clear Yb Yd Nd
          have HSK := unhalt SK
          clear SK
          have HKA := unhalt (kr.trans kA (by simp))
          go_cut [596] from 546 to 595 (fun b wx => b = .bool false ∧ Keep [] wd wx)
          case first =>
            clear HZ HH HI hE eh42 hR fa HNG HNS hD1 hD3 hD2 cDB cE HCUT EG ES HDI m2 m3 m5 m6 m7 xN hle hgl bA kA kr HN H HKA hgl1 hngl hnsl hkn hk hn2 hwr
            have hwr := wrap_u8 (q.2 % 10) hq0 hq1
            go_region_held3 (fun w' => w'.cell? ⟨db, 0, none⟩ = some (.string ⟨#[118, 49]⟩) ∧ w'.cell? ⟨db, 1, none⟩ = some (.string (nameB (fiOf q))) ∧ w'.cell? ⟨db, 2, none⟩ = some (.int .u64 (q.2 % 10)) ∧ w'.cell? ⟨db, 3, none⟩ = some (.slice (some ⟨mg, 0, none⟩) 2 mc) ∧ w'.cell? ⟨I.NM, fiOf q, none⟩ = some (.string (nameB (fiOf q)))) (first | assumption | exact HSK.out _ ((Keep.refl [] wd).alloc _).drew) (first | (go_at_call 10; refine (HEQ.out _ ((Keep.refl [] wd).alloc _).drew _ ((Blk.new _ _ _).drew)).mono ?_; rintro e w6 ⟨rfl, hk6, hS6⟩))
            all_goals
              clear HEQ HSK hS6 S0
              go_wp2
              go_meet
              case rel => exact ⟨rfl, hk6.out⟩
          case rest =>
            obtain ⟨rfl, kz⟩ := hcut
            have kf := HKA.out.trans kz (by simp)
            clear S0 hz0 hzs hwr
            go_wp2
            exact ⟨⟨k + 1, by omega, by go_num, by rw [EG.out, ← HDI.out]; go_num, by rw [ES.out], kf⟩, by simp [intOf]; omega⟩
        · have hpnl : ¬ p.2.1 ≤ cutv p.1 := by rw [p2, hcv]; exact hle
          have hsa := stay_at cutv hp hpnl
          have hsl : (stay cutv (J3.hs.take k)).length < ns := by have := (List.getElem?_eq_some_iff.1 hsa).1; have := HNS.out; omega
          have eg : (gone cutv (J3.hs.take (k + 1))).length = (gone cutv (J3.hs.take k)).length := by rw [ht1]; simp [gone, hpnl]
          have es : (stay cutv (J3.hs.take (k + 1))).length = (stay cutv (J3.hs.take k)).length + 1 := by rw [ht1]; simp [stay, hpnl]
          have EG := unhalt eg
          have ES := unhalt es
          obtain ⟨ri, hri⟩ : ∃ x, x = (stay cutv (J3.hs.take k)).length := ⟨_, rfl⟩
          rw [← hri] at hsl hsa ⊢
          have HRI := unhalt hri
          clear hri eg es ht1
          have get : ∀ i, i < 5 → wr.cell? ⟨J3.HR, ri * 5 + i, none⟩ = (rcells vone p)[i]? := fun i hi => by
            rw [(kr.blk hR (by simp)).cell, List.getElem?_append_left (by rw [flat_len]; have := (List.getElem?_eq_some_iff.1 hsa).1; omega)]
            exact flat_get vone hsa i hi
          have y0 := get 0 (by omega)
          have y2 := get 2 (by omega)
          simp only [rcells, List.getElem?_cons_zero, List.getElem?_cons_succ, Nat.add_zero] at y0 y2
          rw [p1] at y0
          rw [p2] at y2
          have m8 := (kr.blk hR (by simp)).lt
          have hsl1 : ((ri : Nat) : Int) < ((ns : Nat) : Int) := by omega
          clear get p1 p2 p3 p4 hp hq hcv hpnl hsa
          go_upto_region 143 with fail
          go_cut [632] from 599 to 631 (fun b wx => b = .bool false ∧ ∃ m, wx = wr.drewN m)
          case first =>
            clear HZ HH HI hE eh42 hR fa HNG HNS hD1 hD3 hD2 cDB cE HCUT EG ES HRI m2 m3 m5 m6 kr HN H hngl hnsl hkn hk hn2 hle xF xQ xV cD' hsl
            have hdec : decide (((ns : Nat) : Int) ≤ ((ri : Nat) : Int)) = false := decide_eq_false (by omega)
            have hdec2 : decide (ns ≤ ri) = false := decide_eq_false (by omega)
            have hdec3 : decide (((ri : Nat) : Int) < ((ns : Nat) : Int)) = true := decide_eq_true (by omega)
            have hdec4 : decide (ri < ns) = true := decide_eq_true (by omega)
            have hdec5 : ¬ ns ≤ ri := by omega
            go_quiet (fail)
            go_wp2
            go_meet
            case rel => exact ⟨rfl, nq, rfl⟩
          case rest =>
            obtain ⟨rfl, m, rfl⟩ := hcut
            have kq := kr.drewN m
            go_wp2
            exact ⟨⟨k + 1, by omega, by go_num, by rw [EG.out], by rw [ES.out, ← HRI.out]; go_num, kq⟩, by simp [intOf]; omega⟩
      · obtain rfl : k = n := by omega
        have htk : J3.hs.take k = J3.hs := List.take_of_length_le (by have := HI.1; have := HNN.out; omega)
        have h1 := HNG.out
        have h2 := HNS.out
        rw [htk, ← h1, ← h2]
        clear h1 h2 htk
        go_wp2
        go_meet
        case rel => exact ⟨rfl, rfl, kr⟩
  case rest =>
    obtain ⟨rfl, rfl, kr⟩ := hcut
    have cD' := kr.cell cDB (by simp)
    have m6 : X.DB < wc.heap.size := block_lt_of_cell cD'
    have cE' := kr.cell cE (by simp)
    have m7 : X.E < wc.heap.size := block_lt_of_cell cE'
    have hz0 := @List.getElem?_cons_zero Field
    have hzs := @List.getElem?_cons_succ Field
    go_upto_if 648 with fail
    go_cut [] from 636 to 648 (fun wx => wx = wc)
    case first =>
      go_wp2
      go_meet
      case rel => rfl
    case rest =>
      obtain rfl := hcut
      rename_i hK
      have hnn := HNN.out
      subst hnn
      exact hK _ _ (HN.out _ _ ⟨⟨rfl, rfl, rfl, rfl, rfl, rfl, rfl, rfl, rfl, rfl, rfl⟩, ⟨rfl, rfl, rfl⟩, ⟨rfl, rfl⟩, ⟨rfl, rfl, rfl⟩, ⟨rfl, rfl, rfl, rfl, rfl⟩⟩ ⟨rfl, rfl⟩ ⟨rfl, rfl, rfl⟩ kr)
end Go.Proofs.Ybulkdfze
