import Derived.Test.YbulkdfzeLawDG
namespace Go.Proofs.Ybulkdfze
open Go Go.RowKit Go.Lib Go.Shelf
def okE (D : LD) (i : Nat) : Bool := !(D.N i && D.O i && (!D.pr i || D.gu i))
def okF (D : LD) (j : Nat) : Bool := (List.range j).all (okE D)
theorem okF_succ (D : LD) (j : Nat) : okF D (j + 1) = (okF D j && okE D j) := by simp [okF, List.range_succ]
theorem bad_iff (D : LD) (I : LI) (J : LB) (J2 : LC) (J3 : LH) (X : LX) : (∃ m ∈ namesOf (pickN D.N 4), (mkFD D I J J2 J3 X).bad m) ↔ okF D 4 = false := by
  have key : ∀ i, i < 4 → D.N i = true → ((mkFD D I J J2 J3 X).bad (nameB i) ↔ okE D i = false) := fun i hi hN => by
    unfold FixD.bad
    have h1 : nameB i ∈ (mkFD D I J J2 J3 X).os ↔ D.O i = true := by
      show nameB i ∈ namesOf (pickN D.O 4) ↔ _
      constructor
      · intro h
        obtain ⟨k, hk, ho, e⟩ := mem_names h
        have := nameB_inj (by omega) (by omega) e
        subst this
        exact ho
      · intro h
        exact List.mem_map.2 ⟨i, by unfold pickN; simp [List.mem_filter, hi, h], rfl⟩
    have h2 : (mkFD D I J J2 J3 X).pres (nameB i) = D.pr i := by
      show (decide (idxB (nameB i) < 4) && D.pr (idxB (nameB i))) = _
      rw [idxB_name i hi]; simp [hi]
    have h3 : (mkFD D I J J2 J3 X).gu (nameB i) = D.gu i := by
      show D.gu (idxB (nameB i)) = _
      rw [idxB_name i hi]
    rw [h1, h2, h3]
    unfold okE
    cases D.O i <;> cases D.pr i <;> cases D.gu i <;> simp [hN]
  constructor
  · rintro ⟨m, hm, hb⟩
    obtain ⟨i, hi, hN, rfl⟩ := mem_names hm
    have := (key i hi hN).1 hb
    unfold okF
    rw [List.all_eq_false]
    exact ⟨i, by simpa using hi, by simp [this]⟩
  · intro h
    unfold okF at h
    rw [List.all_eq_false] at h
    obtain ⟨i, hi, ho⟩ := h
    have hi4 : i < 4 := by simpa using hi
    have hN : D.N i = true := by
      unfold okE at ho
      cases hn : D.N i
      · simp [hn] at ho
      · rfl
    exact ⟨nameB i, List.mem_map.2 ⟨i, by unfold pickN; simp [List.mem_filter, hi4, hN], rfl⟩, (key i hi4 hN).2 (by simpa using ho)⟩

theorem neq_map (w : World) : (binOp .neq 37 (.map none) (.map none)).run Yba.prog w = .ok (.bool false) w := by
  simp only [binOp]
  simp [run_equal_map_nil w 37 9 31 none Yba.underlying37]
theorem eql_map (b : Nat) (w : World) : (binOp .eql 37 (.map (some b)) (.map none)).run Yba.prog w = .ok (.bool false) w := by
  simp only [binOp]
  simp [run_equal_map_nil w 37 9 31 (some b) Yba.underlying37]
theorem froms_get {l : List (Int × Int)} {k : Nat} {q : Int × Int} (h : l[k]? = some q) : (fromsL l)[k]? = some (.int .i64 (fiOf q : Int)) := by simp [fromsL, h]
theorem seqs_get {l : List (Int × Int)} {k : Nat} {q : Int × Int} (h : l[k]? = some q) : (seqsL l)[k]? = some (.int .u64 (q.2 % 10)) := by simp [seqsL, h]

set_option maxRecDepth 1000000 in
set_option maxHeartbeats 8000000 in
theorem phaseF1 (D : LD) (H : D.Ok) (I : LI) (J : LB) (J2 : LC) (J3 : LH) (X : LX) (a : Act) (w : World) (HS : SL D I J J2 J3 X true a) (HZ : FZ D I J J2 J3 w) (hok4 : okF D 4 = true)
    (next : ∀ a', SL D I J J2 J3 X true a' → Code.wp Yba.prog (C3 Yba.f3 27) (LQ D) a' w) : Code.wp Yba.prog (C3 Yba.f3 24) (LQ D) a w := by
  obtain ⟨u, hu, rfl⟩ := frame_of a HS.sa.hs HS.sa.hd
  have e5 := hu 5 _ HS.sa.s5
  have e8 := hu 8 _ HS.sa.s8
  have e10 := hu 10 _ HS.sa.s10
  have e13 := hu 13 _ HS.sa.s13
  have e14 := hu 14 _ HS.sa.s14
  have e15 := hu 15 _ HS.sa.s15
  have e16 := hu 16 _ HS.sa.s16
  have e17 := hu 17 _ HS.sa.s17
  have e19 := hu 19 _ HS.sa.s19
  have e20 := hu 20 _ HS.sb.s20
  have e21 := hu 21 _ HS.sb.s21
  have e22 := hu 22 _ HS.sb.s22
  have e28 := hu 28 _ HS.sc.s28
  have e29 := hu 29 _ HS.sc.s29
  have e35 := hu 35 _ HS.sd.s35
  have e36 := hu 36 _ HS.sd.s36
  have e37 := hu 37 _ HS.sd.s37
  have e42 := hu 42 _ HS.sx.s42
  have e43 := hu 43 _ HS.sx.s43
  have e45 := hu 45 _ HS.sx.s45
  have e46 := hu 46 _ HS.sx.s46
  have e47 := hu 47 _ HS.sx.s47
  have HN := unhalt next
  have HK4 := unhalt hok4
  clear next hok4
  clear hu HS
  conv => arg 2; whnf
  unfold frame
  simp only [e5, e8, e10, e13, e14, e15, e16, e17, e19, e20, e21, e22, e28, e29, e35, e36, e37, e42, e43, e45, e46, e47]
  have fa := HZ.fa
  have lRP := fa.hRP.lt
  have lIO := fa.hIO.lt
  have lIN := fa.hIN.lt
  go_upto_block 12 with fail
  go_cut [48, 49] from 317 to 341 (fun ok _ wx => ok = .bool (okF D 4) ∧ wx = w)
  case first =>
    go_wp2_with fail
    go_loopw [48, 49] (fun ok c wr => ∃ i : Nat, i ≤ 4 ∧ c = .int .i64 i ∧ ok = .bool (okF D i) ∧ wr = w) (fun _ v _ => 4 - (intOf v).toNat)
    case atStart => exact ⟨0, by omega, rfl, rfl, rfl⟩
    case round =>
      obtain ⟨i, hi, rfl, rfl, rfl⟩ := hrel
      by_cases hi4 : i < 4
      · have hi1 : (i : Int) < 4 := by omega
        have hi0 : (0 : Int) ≤ (i : Int) := by omega
        obtain ⟨r0, _, r2, _⟩ := H.hrp i hi4
        have c0 := fa.hRP.cell (i * 11)
        rw [r0] at c0
        have c2 := fa.hRP.cell (i * 11 + 2)
        rw [r2] at c2
        have cO := fa.hIO.cell i
        rw [bl_get _ i hi4] at cO
        have cN := fa.hIN.cell i
        rw [bl_get _ i hi4] at cN
        have hz0 := @List.getElem?_cons_zero Field
        have hz1 := @List.getElem?_cons_succ Field
        have hok := okF_succ D i
        have HOK := unhalt hok
        clear hok r0 r2
        cases h1 : D.N i with
        | false =>
          rw [h1] at cN
          have hE : okF D (i + 1) = okF D i := by rw [HOK.out]; simp [okE, h1]
          have HE := unhalt hE
          clear hE
          go_wp2
          exact ⟨⟨i + 1, by omega, by go_num, by rw [HE.out], by first | rfl | trivial⟩, by simp [intOf]; omega⟩
        | true =>
          rw [h1] at cN
          cases h2 : D.O i with
          | false =>
            rw [h2] at cO
            have hE : okF D (i + 1) = okF D i := by rw [HOK.out]; simp [okE, h2]
            have HE := unhalt hE
            clear hE
            go_wp2
            exact ⟨⟨i + 1, by omega, by go_num, by rw [HE.out], by first | rfl | trivial⟩, by simp [intOf]; omega⟩
          | true =>
            rw [h2] at cO
            cases h3 : D.pr i with
            | false =>
              rw [h3] at c0
              have hE : okF D (i + 1) = false := by rw [HOK.out]; simp [okE, h1, h2, h3]
              have HE := unhalt hE
              clear hE
              go_wp2
              exact ⟨⟨i + 1, by omega, by go_num, by rw [HE.out], by first | rfl | trivial⟩, by simp [intOf]; omega⟩
            | true =>
              rw [h3] at c0
              cases h4 : D.gu i with
              | false =>
                rw [h4] at c2
                have hE : okF D (i + 1) = okF D i := by rw [HOK.out]; simp [okE, h3, h4]
                have HE := unhalt hE
                clear hE
                go_wp2
                exact ⟨⟨i + 1, by omega, by go_num, by rw [HE.out], by first | rfl | trivial⟩, by simp [intOf]; omega⟩
              | true =>
                rw [h4] at c2
                have hE : okF D (i + 1) = false := by rw [HOK.out]; simp [okE, h1, h2, h3, h4]
                have HE := unhalt hE
                clear hE
                go_wp2
                exact ⟨⟨i + 1, by omega, by go_num, by rw [HE.out], by first | rfl | trivial⟩, by simp [intOf]; omega⟩
      · obtain rfl : i = 4 := by omega
        go_wp2
        go_meet
        case rel => exact ⟨rfl, rfl⟩
  case rest =>
    obtain ⟨rfl, rfl⟩ := hcut
    have hok4 := HK4.out
    rw [hok4]
    go_upto_if 343 with fail
    go_cut [] from 342 to 415 (fun wx => wx = wc)
    case first =>
      go_wp2
      go_meet
      case rel => rfl
    case rest =>
      obtain rfl := hcut
      rename_i hK
      exact hK _ _ (HN.out _ ⟨⟨rfl, rfl, rfl, rfl, rfl, rfl, rfl, rfl, rfl, rfl, rfl⟩, ⟨rfl, rfl, rfl⟩, ⟨rfl, rfl⟩, ⟨rfl, rfl, rfl⟩, ⟨rfl, rfl, rfl, rfl, rfl⟩⟩)

set_option maxRecDepth 1000000 in
set_option maxHeartbeats 8000000 in
theorem phaseF0 (D : LD) (H : D.Ok) (I : LI) (J : LB) (J2 : LC) (J3 : LH) (X : LX) (a : Act) (w : World) (HS : SL D I J J2 J3 X false a) (HZ : FZ D I J J2 J3 w) (hok4 : okF D 4 = false) (HI : HsIs D J3.hs) (HO : Fno D I J3 X w) : Code.wp Yba.prog (C3 Yba.f3 24) (LQ D) a w := by
  obtain ⟨u, hu, rfl⟩ := frame_of a HS.sa.hs HS.sa.hd
  have e5 := hu 5 _ HS.sa.s5
  have e8 := hu 8 _ HS.sa.s8
  have e10 := hu 10 _ HS.sa.s10
  have e13 := hu 13 _ HS.sa.s13
  have e14 := hu 14 _ HS.sa.s14
  have e15 := hu 15 _ HS.sa.s15
  have e16 := hu 16 _ HS.sa.s16
  have e17 := hu 17 _ HS.sa.s17
  have e19 := hu 19 _ HS.sa.s19
  have e20 := hu 20 _ HS.sb.s20
  have e21 := hu 21 _ HS.sb.s21
  have e22 := hu 22 _ HS.sb.s22
  have e28 := hu 28 _ HS.sc.s28
  have e29 := hu 29 _ HS.sc.s29
  have e35 := hu 35 _ HS.sd.s35
  have e36 := hu 36 _ HS.sd.s36
  have e37 := hu 37 _ HS.sd.s37
  have e42 := hu 42 _ HS.sx.s42
  have e43 := hu 43 _ HS.sx.s43
  have e45 := hu 45 _ HS.sx.s45
  have e46 := hu 46 _ HS.sx.s46
  have e47 := hu 47 _ HS.sx.s47
  have HK4 := unhalt hok4
  clear hok4
  clear hu HS
  conv => arg 2; whnf
  unfold frame
  simp only [e5, e8, e10, e13, e14, e15, e16, e17, e19, e20, e21, e22, e28, e29, e35, e36, e37, e42, e43, e45, e46, e47]
  have fa := HZ.fa
  have lRP := fa.hRP.lt
  have lIO := fa.hIO.lt
  have lIN := fa.hIN.lt
  go_upto_block 12 with fail
  go_cut [48, 49] from 317 to 341 (fun ok _ wx => ok = .bool (okF D 4) ∧ wx = w)
  case first =>
    go_wp2_with fail
    go_loopw [48, 49] (fun ok c wr => ∃ i : Nat, i ≤ 4 ∧ c = .int .i64 i ∧ ok = .bool (okF D i) ∧ wr = w) (fun _ v _ => 4 - (intOf v).toNat)
    case atStart => exact ⟨0, by omega, rfl, rfl, rfl⟩
    case round =>
      obtain ⟨i, hi, rfl, rfl, rfl⟩ := hrel
      by_cases hi4 : i < 4
      · have hi1 : (i : Int) < 4 := by omega
        have hi0 : (0 : Int) ≤ (i : Int) := by omega
        obtain ⟨r0, _, r2, _⟩ := H.hrp i hi4
        have c0 := fa.hRP.cell (i * 11)
        rw [r0] at c0
        have c2 := fa.hRP.cell (i * 11 + 2)
        rw [r2] at c2
        have cO := fa.hIO.cell i
        rw [bl_get _ i hi4] at cO
        have cN := fa.hIN.cell i
        rw [bl_get _ i hi4] at cN
        have hz0 := @List.getElem?_cons_zero Field
        have hz1 := @List.getElem?_cons_succ Field
        have hok := okF_succ D i
        have HOK := unhalt hok
        clear hok r0 r2
        cases h1 : D.N i with
        | false =>
          rw [h1] at cN
          have hE : okF D (i + 1) = okF D i := by rw [HOK.out]; simp [okE, h1]
          have HE := unhalt hE
          clear hE
          go_wp2
          exact ⟨⟨i + 1, by omega, by go_num, by rw [HE.out], by first | rfl | trivial⟩, by simp [intOf]; omega⟩
        | true =>
          rw [h1] at cN
          cases h2 : D.O i with
          | false =>
            rw [h2] at cO
            have hE : okF D (i + 1) = okF D i := by rw [HOK.out]; simp [okE, h2]
            have HE := unhalt hE
            clear hE
            go_wp2
            exact ⟨⟨i + 1, by omega, by go_num, by rw [HE.out], by first | rfl | trivial⟩, by simp [intOf]; omega⟩
          | true =>
            rw [h2] at cO
            cases h3 : D.pr i with
            | false =>
              rw [h3] at c0
              have hE : okF D (i + 1) = false := by rw [HOK.out]; simp [okE, h1, h2, h3]
              have HE := unhalt hE
              clear hE
              go_wp2
              exact ⟨⟨i + 1, by omega, by go_num, by rw [HE.out], by first | rfl | trivial⟩, by simp [intOf]; omega⟩
            | true =>
              rw [h3] at c0
              cases h4 : D.gu i with
              | false =>
                rw [h4] at c2
                have hE : okF D (i + 1) = okF D i := by rw [HOK.out]; simp [okE, h3, h4]
                have HE := unhalt hE
                clear hE
                go_wp2
                exact ⟨⟨i + 1, by omega, by go_num, by rw [HE.out], by first | rfl | trivial⟩, by simp [intOf]; omega⟩
              | true =>
                rw [h4] at c2
                have hE : okF D (i + 1) = false := by rw [HOK.out]; simp [okE, h1, h2, h3, h4]
                have HE := unhalt hE
                clear hE
                go_wp2
                exact ⟨⟨i + 1, by omega, by go_num, by rw [HE.out], by first | rfl | trivial⟩, by simp [intOf]; omega⟩
      · obtain rfl : i = 4 := by omega
        go_wp2
        go_meet
        case rel => exact ⟨rfl, rfl⟩
  case rest =>
    obtain ⟨rfl, rfl⟩ := hcut
    have hok4 := HK4.out
    rw [hok4]
    have c5 : wc.cell? ⟨X.NB, 5, none⟩ = some (.slice none 0 0) := HO.hN.cell 5
    have c6 : wc.cell? ⟨X.NB, 6, none⟩ = some (.map none) := HO.hN.cell 6
    have cS : wc.cell? ⟨X.SB, 0, none⟩ = some (.slice none 0 0) := HO.hS.cell 0
    have cD : wc.cell? ⟨X.DB, 0, none⟩ = some (.slice none 0 0) := HO.hD.cell 0
    have cE := (HO.hE.cell 42).trans HO.e42
    have l1 := HO.hN.lt
    have l2 := HO.hS.lt
    have l3 := HO.hD.lt
    have l4 := HO.hE.lt
    have hz0 := @List.getElem?_cons_zero Field
    have hz1 := @List.getElem?_cons_succ Field
    clear hok4 HK4
    have hnm := neq_map
    obtain ⟨n, hn⟩ : ∃ n, n = D.held.length := ⟨_, rfl⟩
    have hn2 : n ≤ 1024 := by rw [hn]; exact H.lheld
    rw [← hn] at cE ⊢
    have HNN := unhalt hn
    clear hn
    have LK := fa.k0
    go_upto_block 14 with fail
    go_cut [50] from 381 to 415 (fun _ wx => Keep [] D.w0 wx)
    case first =>
      go_wp2_with fail
      clear hnm hz0 hz1
      go_loopw [381] (fun c wr => ∃ j : Nat, j ≤ n ∧ c = .int .i64 j ∧ Keep [] wc wr) (fun v _ => n - (intOf v).toNat)
      case atStart => exact ⟨0, by omega, rfl, Keep.refl _ _⟩
      case round =>
        obtain ⟨j, hj, rfl, kr⟩ := hrel
        by_cases hjn : j < n
        · obtain ⟨q, hq⟩ : ∃ q, D.held[j]? = some q := ⟨D.held[j]'(by have := HNN.out; omega), List.getElem?_eq_getElem (by have := HNN.out; omega)⟩
          obtain ⟨p, hp⟩ : ∃ p, J3.hs[j]? = some p := ⟨J3.hs[j]'(by have := HNN.out; have := HI.1; omega), List.getElem?_eq_getElem (by have := HNN.out; have := HI.1; omega)⟩
          obtain ⟨p1, p2, _, _⟩ := HI.2 j p q hp hq
          have x0 := (kr.blk HO.hR (by simp)).cell (j * 5)
          have y0 := flat_get vone hp 0 (by omega)
          rw [Nat.add_zero] at y0
          rw [y0] at x0
          have x2 := (kr.blk HO.hR (by simp)).cell (j * 5 + 2)
          rw [flat_get vone hp 2 (by omega)] at x2
          simp only [rcells, List.getElem?_cons_zero, List.getElem?_cons_succ] at x0 x2
          rw [p1] at x0
          rw [p2] at x2
          have xF := (kr.blk HZ.hHF (by simp)).cell j
          rw [froms_get hq] at xF
          have xQ := (kr.blk HZ.hHQ (by simp)).cell j
          rw [seqs_get hq] at xQ
          have xN := (kr.blk fa.hNM (by simp)).cell (fiOf q)
          rw [names_get _ (by have := fi_lt q; omega)] at xN
          have cE' := kr.cell cE (by simp)
          have m1 := (kr.blk HO.hR (by simp)).lt
          have m2 := (kr.blk HZ.hHF (by simp)).lt
          have m3 := (kr.blk HZ.hHQ (by simp)).lt
          have m4 := (kr.blk fa.hNM (by simp)).lt
          have m5 : X.E < wr.heap.size := block_lt_of_cell cE'
          have hf5 : ((fiOf q : Nat) : Int) < 5 := by have := fi_lt q; omega
          have hf0 : (0 : Int) ≤ ((fiOf q : Nat) : Int) := by omega
          clear y0 p1 p2 hp hq
          go_wp2
          go_quiet (fail)
          have k2 := kr.drewN nq
          go_wp2
          exact ⟨⟨j + 1, by omega, by go_num, k2⟩, by simp [intOf]; omega⟩
        · go_wp2
          go_meet
          case rel => exact LK.trans kr (by simp)
    case rest =>
      have HCT := unhalt hcut
      go_wp2
      exact bodyPost_ret (v := .bool true) (by simp [results, Yba.results3, go_sem]) rfl ⟨rfl, HCT.out⟩
end Go.Proofs.Ybulkdfze
