import Derived.Test.YbulkdfzeLawDM
import Derived.Test.YbulkdfzeEqual
import Derived.Deep.RegionHeld3
namespace Go.Proofs.Ybulkdfze
open Go Go.RowKit Go.Lib Go.Shelf
theorem info4 : (Yba.prog.info? 4).map (fun i => (i.zero, i.size, i.bytes)) = some (some (.bool false), 1, 1) := by kernel_rfl
theorem map_u8_inj : ∀ {l m : List Int}, l.map (Value.int .u8) = m.map (Value.int .u8) → l = m
  | [], [], _ => rfl
  | [], _ :: _, h => by simp at h
  | _ :: _, [], h => by simp at h
  | _ :: _, _ :: _, h => by
    simp only [List.map_cons, List.cons.injEq, Value.int.injEq, true_and] at h
    rw [h.1, map_u8_inj h.2]
set_option maxRecDepth 1000000 in
set_option maxHeartbeats 8000000 in
theorem phaseL (D : LD) (I : LI) (J : LB) (J2 : LC) (J3 : LH) (X : LX) (S W : List (ByteArray × List Value)) (b : Nat) (v : Value) (a : Act) (w : World) (HS : SL D I J J2 J3 X true a) (hs70 : a.tmps[70]? = some v) (hk0 : Keep [] D.w0 w) (hWo : ∃ xs, w.ownsRow b 71 3 v W.length xs ∧ SEl w xs W) (hSo : Sends 0 w X.SB S) (hp : S.Perm W) (hn9 : ∀ p ∈ W, Nine p) (hWl : W.length ≤ 128) : Code.wp Yba.prog (C3 Yba.f3 45) (LQ D) a w := by
  obtain ⟨u, hu, rfl⟩ := frame_of a HS.sa.hs HS.sa.hd
  have e5 := hu 5 _ HS.sa.s5
  have e8 := hu 8 _ HS.sa.s8
  have e10 := hu 10 _ HS.sa.s10
  have e13 := hu 13 _ HS.sa.s13
  have e14 := hu 14 _ HS.sa.s14
  have e15 := hu 15 _ HS.sa.s15
  have e16 := hu 16 _ HS.sa.s16
  have e17 := hu 17 _ HS.sa.s17
  have e19 := hu 19 _ HS.sa.s19
  have e20 := hu 20 _ HS.sb.s20
  have e21 := hu 21 _ HS.sb.s21
  have e22 := hu 22 _ HS.sb.s22
  have e28 := hu 28 _ HS.sc.s28
  have e29 := hu 29 _ HS.sc.s29
  have e35 := hu 35 _ HS.sd.s35
  have e36 := hu 36 _ HS.sd.s36
  have e37 := hu 37 _ HS.sd.s37
  have e42 := hu 42 _ HS.sx.s42
  have e43 := hu 43 _ HS.sx.s43
  have e45 := hu 45 _ HS.sx.s45
  have e46 := hu 46 _ HS.sx.s46
  have e47 := hu 47 _ HS.sx.s47
  have e70 := hu 70 _ hs70
  clear hs70
  clear hu HS
  conv => arg 2; whnf
  unfold frame
  simp only [e5, e8, e10, e13, e14, e15, e16, e17, e19, e20, e21, e22, e28, e29, e35, e36, e37, e42, e43, e45, e46, e47, e70]
  obtain ⟨xs, hW1, hW2⟩ := hWo
  obtain ⟨sv, ys, hS0, hS1, hS2⟩ := hSo
  obtain ⟨n, hn⟩ : ∃ n, n = W.length := ⟨_, rfl⟩
  have hSn : S.length = n := by rw [hn]; exact hp.length_eq
  rw [← hn] at hW1 hWl
  rw [hSn] at hS1
  have HNN := unhalt (⟨hn, hSn⟩ : _ ∧ _)
  have HP := unhalt hp
  have H9 := unhalt hn9
  clear hn hSn hp hn9
  obtain ⟨vao, vcap, rfl⟩ : ∃ ao cap, v = .slice ao n cap := by
    rcases hW1.2 with ⟨h1, h2⟩ | ⟨g, cap, cur, h1, _⟩
    · exact ⟨none, 0, by rw [h1, h2]⟩
    · exact ⟨_, cap, h1⟩
  obtain ⟨sao, scap, rfl⟩ : ∃ ao cap, sv = .slice ao n cap := by
    rcases hS1.2 with ⟨h1, h2⟩ | ⟨g, cap, cur, h1, _⟩
    · exact ⟨none, 0, by rw [h1, h2]⟩
    · exact ⟨_, cap, h1⟩
  have cSB : w.cell? ⟨X.SB, 0, none⟩ = some (.slice sao n scap) := hS0.cell 0
  have lSB := hS0.lt
  obtain ⟨i4, hi4, hz40, hz41, hz42⟩ := info_parts info4
  go_wp2_with (at_make; refine halt ?_)
  refine unhalt ?_
  refine wpList_mk _ rfl _ _ 114 rfl 4 i4 (.bool false) Yba.underlying114 hi4 hz40 hz41 rfl .i64 .i64 _ _ n n rfl rfl (by omega) (by omega) (by omega) (by rw [hz42]; omega) (by unfold maxLen; omega) ?_
  intro w2 hB2 hg2 _
  have K2 : Keep [] w w2 := (Keep.refl [] w).grown hg2 (by simp)
  obtain ⟨UB, hUB⟩ : ∃ x, x = w.heap.size := ⟨_, rfl⟩
  rw [← hUB] at hB2 ⊢
  have hUB1 : w.heap.size ≤ UB := by omega
  clear hUB hg2 hi4 hz40 hz41 hz42
  have cSB2 := K2.cell cSB (by simp)
  have lSB2 : X.SB < w2.heap.size := block_lt_of_cell cSB2
  have HU0 := unhalt (show (List.replicate n false).length = n ∧ (S.drop 0).Perm (unU (List.replicate n false) W) by
    refine ⟨by simp, ?_⟩
    rw [HNN.out.1, unU_all]
    exact HP.out)
  have hB0 : Blk w2 UB 4 ((List.replicate n false).map Value.bool) := hB2.cast (by simp)
  clear hB2
  go_upto_block 34 with fail
  go_wp2_with fail
  go_loopw [743] (fun c wr => ∃ (i : Nat) (U : List Bool), i ≤ n ∧ c = .int .i64 i ∧ Keep [] w wr ∧ Blk wr UB 4 (U.map Value.bool) ∧ Hid (U.length = n ∧ (S.drop i).Perm (unU U W))) (fun v _ => n - (intOf v).toNat)
  case atStart => exact ⟨0, _, Nat.zero_le _, rfl, K2, hB0, HU0⟩
  case round =>
    obtain ⟨i, U, hi, rfl, kr, hB, HU⟩ := hrel
    clear hB0 HU0 cSB2 lSB2 K2
    by_cases hin : i < n
    · obtain ⟨p, hp⟩ : ∃ p, S[i]? = some p := ⟨S[i]'(by have := HNN.out.2; omega), List.getElem?_eq_getElem (by have := HNN.out.2; omega)⟩
      obtain ⟨g1, c1, g2, c2, d1, d2, y0, y1, y2, b1, b2⟩ := hS2.get hp
      obtain ⟨sg, rfl⟩ : ∃ g, sao = some ⟨g, 0, none⟩ := by
        rcases hS1.2 with ⟨h1, h2⟩ | ⟨g, cap, cur, h1, _⟩
        · omega
        · cases h1; exact ⟨g, rfl⟩
      obtain ⟨zs, hz9, hze⟩ := H9.out p (HP.out.subset (List.mem_of_getElem? hp))
      rw [hze] at y2 b2
      rw [List.length_map, hz9] at y2
      have dcell : ∀ i u, ys[i]? = some u → wr.cell? ⟨sg, i, none⟩ = some u := fun i u hu => by
        have := hS1.cells (g := sg) rfl i u hu
        rw [Addr.add_lit, Nat.zero_add] at this
        exact kr.cell this (by simp)
      have z0 := dcell _ _ y0
      have z1 := dcell _ _ y1
      have z2 := dcell _ _ y2
      have m8 : sg < wr.heap.size := block_lt_of_cell z0
      have hin1 : (i : Int) < (n : Int) := by omega
      clear dcell y0 y1 y2
      have kA : Keep [] wr (wr.alloc (.cells #[.int .u8 9, .slice (some ⟨g1, 0, none⟩) 1 c1, .slice (some ⟨g2, 0, none⟩) 9 c2] 71)) := (Keep.refl [] wr).alloc _
      have bA := Blk.new' wr #[.int .u8 9, .slice (some ⟨g1, 0, none⟩) 1 c1, .slice (some ⟨g2, 0, none⟩) 9 c2] 71 wr.heap.size rfl
      have HPI := unhalt (⟨hp, hz9, hze⟩ : _ ∧ _ ∧ _)
      clear hp hz9 hze
      go_upto_block 36 with fail
      generalize wr.alloc (.cells #[.int .u8 9, .slice (some ⟨g1, 0, none⟩) 1 c1, .slice (some ⟨g2, 0, none⟩) 9 c2] 71) = wA at kA bA ⊢
      obtain ⟨db, hdb⟩ : ∃ x, x = wr.heap.size := ⟨_, rfl⟩
      rw [← hdb] at bA ⊢
      clear hdb z0 z1 z2
      have B1 := kA.blk (kr.blk b1 (by simp)) (by simp)
      have B2 := kA.blk (kr.blk b2 (by simp)) (by simp)
      have HBU := kA.blk hB (by simp)
      have kwA := kr.trans kA (by simp)
      clear b1 b2 hB kr kA m8
      go_cut [83, 84, 85] from 749 to 792 (fun f _ _ wx => f = .bool true ∧ ∃ U' : List Bool, Keep [] w wx ∧ Blk wx UB 4 (U'.map Value.bool) ∧ Hid (U'.length = n ∧ (S.drop (i + 1)).Perm (unU U' W)))
      case first =>
        go_wp2_with fail
        go_loopw [83, 749] (fun f c wq => ∃ k : Nat, k ≤ n ∧ c = .int .i64 k ∧ f = .bool false ∧ Keep [] wA wq ∧ Hid (∀ i, i < k → U[i]? = some false → W[i]? ≠ some p)) (fun _ v _ => n - (intOf v).toNat)
        case atStart => exact ⟨0, Nat.zero_le _, rfl, rfl, Keep.refl _ _, unhalt fun k' h => absurd h (Nat.not_lt_zero _)⟩
        case round =>
          obtain ⟨k, hk, rfl, rfl, kq, HNO⟩ := hrel
          by_cases hkn : k < n
          · obtain ⟨bu, hbu⟩ : ∃ x, U[k]? = some x := ⟨U[k]'(by have := HU.out.1; omega), List.getElem?_eq_getElem (by have := HU.out.1; omega)⟩
            have xU := (kq.blk HBU (by simp)).cell k
            rw [List.getElem?_map, hbu, Option.map_some] at xU
            have lU := (kq.blk HBU (by simp)).lt
            have hkn1 : (k : Int) < (n : Int) := by omega
            cases bu with
            | true =>
              have HJ : Hid (∀ i, i < k + 1 → U[i]? = some false → W[i]? ≠ some p) := unhalt fun i hi hf => by
                by_cases h : i < k
                · exact HNO.out i h hf
                · obtain rfl : i = k := by omega
                  rw [hbu] at hf
                  cases hf
              clear HNO hbu
              go_wp2
              exact ⟨⟨k + 1, by omega, by go_num, by first | rfl | trivial, kq, HJ⟩, by simp [intOf]; omega⟩
            | false =>
              obtain ⟨q, hq⟩ : ∃ q, W[k]? = some q := ⟨W[k]'(by have := HNN.out.1; omega), List.getElem?_eq_getElem (by have := HNN.out.1; omega)⟩
              obtain ⟨h1, e1, h2, e2, d3, d4, x0, x1, x2, b3, b4⟩ := hW2.get hq
              obtain ⟨vg, rfl⟩ : ∃ g, vao = some ⟨g, 0, none⟩ := by
                rcases hW1.2 with ⟨h1, h2⟩ | ⟨g, cap, cur, h1, _⟩
                · omega
                · cases h1; exact ⟨g, rfl⟩
              obtain ⟨zt, ht9, hte⟩ := H9.out q (List.mem_of_getElem? hq)
              rw [hte] at x2 b4
              rw [List.length_map, ht9] at x2
              have kwr := kwA.trans kq (by simp)
              have dcell : ∀ i u, xs[i]? = some u → wr.cell? ⟨vg, i, none⟩ = some u := fun i u hu => by
                have := hW1.cells (g := vg) rfl i u hu
                rw [Addr.add_lit, Nat.zero_add] at this
                exact kwr.cell this (by simp)
              have z0 := dcell _ _ x0
              have z1 := dcell _ _ x1
              have z2 := dcell _ _ x2
              have m8 : vg < wr.heap.size := block_lt_of_cell z0
              clear dcell x0 x1 x2
              have kB : Keep [] wr (wr.alloc (.cells #[.int .u8 9, .slice (some ⟨h1, 0, none⟩) 1 e1, .slice (some ⟨h2, 0, none⟩) 9 e2] 71)) := (Keep.refl [] wr).alloc _
              have bB := Blk.new' wr #[.int .u8 9, .slice (some ⟨h1, 0, none⟩) 1 e1, .slice (some ⟨h2, 0, none⟩) 9 e2] 71 wr.heap.size rfl
              go_upto_region 185 with fail
              generalize wr.alloc (.cells #[.int .u8 9, .slice (some ⟨h1, 0, none⟩) 1 e1, .slice (some ⟨h2, 0, none⟩) 9 e2] 71) = wB at kB bB ⊢
              obtain ⟨eb, heb⟩ : ∃ x, x = wr.heap.size := ⟨_, rfl⟩
              rw [← heb] at bB ⊢
              clear heb z0 z1 z2
              have A1 := kB.blk (kq.blk bA (by simp)) (by simp)
              have B1' := kB.blk (kq.blk B1 (by simp)) (by simp)
              have B2' := kB.blk (kq.blk B2 (by simp)) (by simp)
              have B3 := kB.blk (kwr.blk b3 (by simp)) (by simp)
              have B4 := kB.blk (kwr.blk b4 (by simp)) (by simp)
              obtain ⟨pn, hpn⟩ : ∃ x, x = p.1 := ⟨_, rfl⟩
              obtain ⟨qn, hqn⟩ : ∃ x, x = q.1 := ⟨_, rfl⟩
              rw [← hpn] at B1'
              rw [← hqn] at B3
              have SK : ∀ w', Keep [] wB w' → w'.cell? ⟨db, 0, none⟩ = some (.int .u8 9) ∧ w'.cell? ⟨db, 1, none⟩ = some (.slice (some ⟨g1, 0, none⟩) 1 c1) ∧ w'.cell? ⟨db, 2, none⟩ = some (.slice (some ⟨g2, 0, none⟩) 9 c2) ∧ w'.cell? ⟨eb, 0, none⟩ = some (.int .u8 9) ∧ w'.cell? ⟨eb, 1, none⟩ = some (.slice (some ⟨h1, 0, none⟩) 1 e1) ∧ w'.cell? ⟨eb, 2, none⟩ = some (.slice (some ⟨h2, 0, none⟩) 9 e2) ∧ w'.cell? ⟨g1, 0, none⟩ = some (.string pn) ∧ w'.cell? ⟨h1, 0, none⟩ = some (.string qn) := fun w' k => ⟨(k.blk A1 (by simp)).cell 0, (k.blk A1 (by simp)).cell 1, (k.blk A1 (by simp)).cell 2, (k.blk bB (by simp)).cell 0, (k.blk bB (by simp)).cell 1, (k.blk bB (by simp)).cell 2, (k.blk B1' (by simp)).cell 0, (k.blk B3 (by simp)).cell 0⟩
              have S0 := SK wB.drew (Keep.refl [] wB).drew
              have HEQ := unhalt (fun (w1 : World) (k : Keep [] wB w1) => (equal_bytes2 (some ⟨g2, 0, none⟩) (some ⟨h2, 0, none⟩) 9 c2 e2 zs zt w1 (by omega) (Rd.of_blk (k.blk B2' (by simp)) 0 _ (fun i u hi => by
                  rw [Nat.zero_add]
                  exact (List.getElem?_append_left (List.getElem?_eq_some_iff.1 hi).1).trans hi)) (Rd.of_blk (k.blk B4 (by simp)) 0 _ (fun i u hi => by
                  rw [Nat.zero_add]
                  exact (List.getElem?_append_left (List.getElem?_eq_some_iff.1 hi).1).trans hi)) HPI.out.2.1 ht9).mono (R' := fun e w' => e = .returned (.bool (decide (zs = zt))) ∧ Hid (Keep [] wB w') ∧ w'.cell? ⟨db, 0, none⟩ = some (.int .u8 9) ∧ w'.cell? ⟨db, 1, none⟩ = some (.slice (some ⟨g1, 0, none⟩) 1 c1) ∧ w'.cell? ⟨db, 2, none⟩ = some (.slice (some ⟨g2, 0, none⟩) 9 c2) ∧ w'.cell? ⟨eb, 0, none⟩ = some (.int .u8 9) ∧ w'.cell? ⟨eb, 1, none⟩ = some (.slice (some ⟨h1, 0, none⟩) 1 e1) ∧ w'.cell? ⟨eb, 2, none⟩ = some (.slice (some ⟨h2, 0, none⟩) 9 e2) ∧ w'.cell? ⟨g1, 0, none⟩ = some (.string pn) ∧ w'.cell? ⟨h1, 0, none⟩ = some (.string qn)) (by
                rintro e w' ⟨rfl, k2⟩
                have k3 := k.trans k2 (by simp)
                exact ⟨rfl, k3, SK w' k3⟩))
              have HSK := unhalt SK
              have HB := unhalt (⟨hbu, hq, hte, hpn, hqn⟩ : _ ∧ _ ∧ _ ∧ _ ∧ _)
              have hz0 := @List.getElem?_cons_zero Field
              have hzs := @List.getElem?_cons_succ Field
              clear SK hbu hq ht9 hte hpn hqn B1' B2' B3 B4 A1 b3 b4 xU
              obtain ⟨bb, hbb⟩ : ∃ x, x = (decide (pn = qn) && decide (zs = zt)) := ⟨_, rfl⟩
              have HBB := unhalt hbb
              clear hbb
              have kAB := kq.trans kB (by simp)
              go_cut [788] from 760 to 787 (fun b wx => b = .bool bb ∧ Keep [] wB wx)
              case first =>
                by_cases hne : pn = qn
                · have hb1 : (pn.toList == qn.toList) = true := by simp [hne]
                  have HB1 := unhalt (show bb = decide (zs = zt) by rw [HBB.out]; simp [hne])
                  clear hne HBB
                  go_region_held3 (fun w' => w'.cell? ⟨db, 0, none⟩ = some (.int .u8 9) ∧ w'.cell? ⟨db, 1, none⟩ = some (.slice (some ⟨g1, 0, none⟩) 1 c1) ∧ w'.cell? ⟨db, 2, none⟩ = some (.slice (some ⟨g2, 0, none⟩) 9 c2) ∧ w'.cell? ⟨eb, 0, none⟩ = some (.int .u8 9) ∧ w'.cell? ⟨eb, 1, none⟩ = some (.slice (some ⟨h1, 0, none⟩) 1 e1) ∧ w'.cell? ⟨eb, 2, none⟩ = some (.slice (some ⟨h2, 0, none⟩) 9 e2) ∧ w'.cell? ⟨g1, 0, none⟩ = some (.string pn) ∧ w'.cell? ⟨h1, 0, none⟩ = some (.string qn)) (first | assumption | exact HSK.out _ (Keep.refl [] wB).drew) (first | (go_at_call 10; refine (HEQ.out _ (Keep.refl [] wB).drew).mono ?_; rintro e w6 ⟨rfl, hk6, hS6⟩))
                  all_goals
                    clear HEQ HSK hS6 S0
                    go_wp2
                    go_meet
                    case rel => exact ⟨by rw [HB1.out], hk6.out⟩
                · have hb1 : (pn.toList == qn.toList) = false := beq_eq_false_iff_ne.2 fun e => hne (bytes_ext e)
                  have HB1 := unhalt (show bb = false by rw [HBB.out]; simp [hne])
                  clear hne HBB HEQ S0
                  obtain ⟨s0, s1, s2, s3, s4, s5, s6, s7⟩ := HSK.out wB (Keep.refl [] wB)
                  have l0 : db < wB.heap.size := block_lt_of_cell s0
                  have l1 : eb < wB.heap.size := block_lt_of_cell s3
                  have l2 : g1 < wB.heap.size := block_lt_of_cell s6
                  have l3 : h1 < wB.heap.size := block_lt_of_cell s7
                  go_quiet (fail)
                  go_wp2
                  go_meet
                  case rel => exact ⟨by rw [HB1.out], (Keep.refl [] wB).drewN nq⟩
              case rest =>
                obtain ⟨rfl, kz⟩ := hcut
                clear S0 hz0 hzs HSK HEQ
                have ku := kAB.trans kz (by simp)
                cases bb with
                | true =>
                  have hpq : q = p := by
                    have h := HBB.out
                    have h2 : pn = qn ∧ zs = zt := by simpa using h.symm
                    obtain ⟨_, _, x1, x2, x3⟩ := HB.out
                    exact Prod.ext (by rw [← x3, ← x2, h2.1]) (by rw [x1, HPI.out.2.2, h2.2])
                  have hBc := ku.blk HBU (by simp)
                  have fU := hBc.free k
                  have lUc := hBc.lt
                  have xUc := hBc.cell k
                  rw [List.getElem?_map, HB.out.1, Option.map_some] at xUc
                  have HFI := unhalt (show Keep [] w (wc.setCell ⟨UB, k, none⟩ (.bool true)) ∧ Blk (wc.setCell ⟨UB, k, none⟩ (.bool true)) UB 4 ((U.set k true).map Value.bool) ∧ Hid ((U.set k true).length = n ∧ (S.drop (i + 1)).Perm (unU (U.set k true) W)) from ⟨(kwA.trans ku (by simp)).setCell _ _ (fun h => by exfalso; dsimp only at h; omega), (hBc.set k _).cast (by rw [List.map_set]), unhalt ⟨by rw [List.length_set]; exact HU.out.1, match_step HU.out.2 HPI.out.1 HB.out.1 (by rw [← hpq]; exact HB.out.2.1)⟩⟩)
                  clear hBc HB HBB hpq HU HPI HNO
                  go_wp2
                  go_meet
                  case rel => exact ⟨rfl, U.set k true, HFI.out⟩
                | false =>
                  have HJ : Hid (∀ i, i < k + 1 → U[i]? = some false → W[i]? ≠ some p) := unhalt fun i hi hf hw => by
                    by_cases h : i < k
                    · exact HNO.out i h hf hw
                    · obtain rfl : i = k := by omega
                      obtain ⟨_, x0, x1, x2, x3⟩ := HB.out
                      rw [x0] at hw
                      cases hw
                      have hzz : zs = zt := by
                        have e := HPI.out.2.2.symm.trans x1
                        exact map_u8_inj e
                      have hh := HBB.out
                      rw [x2, x3, hzz] at hh
                      simp at hh
                  clear HNO HB HBB
                  go_wp2
                  exact ⟨⟨k + 1, by omega, by go_num, by first | rfl | trivial, ku, HJ⟩, by simp [intOf]; omega⟩
          · exfalso
            obtain ⟨k', hu, hw⟩ := match_some HU.out.2 HPI.out.1
            exact HNO.out k' (by have := (List.getElem?_eq_some_iff.1 hu).1; have := HU.out.1; omega) hu hw
      case rest =>
        obtain ⟨rfl, U', kc, hBc, HUc⟩ := hcut
        go_wp2
        exact ⟨⟨i + 1, U', by omega, by go_num, kc, hBc, HUc⟩, by simp [intOf]; omega⟩
    · have hkf := hk0.trans kr (by simp)
      go_wp2
      exact bodyPost_ret (v := .bool true) (by simp [results, Yba.results3, go_sem]) rfl ⟨rfl, hkf⟩
end Go.Proofs.Ybulkdfze
