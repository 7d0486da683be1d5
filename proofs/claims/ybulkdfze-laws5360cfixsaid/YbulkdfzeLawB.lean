import Derived.Test.YbulkdfzeLawDB
namespace Go.Proofs.Ybulkdfze
open Go Go.RowKit Go.Lib Go.Shelf

/-- The loop over the reports. -/
def BI (D : LD) (w : World) (CH RB SQ : Nat) (LBf : Nat → Nat) (i : Nat) (wr : World) : Prop :=
  Keep [] w wr ∧ Blk wr CH 33 [.string ⟨#[76]⟩, .int .u64 1, .int .u64 1] ∧ Mp wr RB (D.reps LBf i) ∧ (∀ k, k < i → D.pr k = true → Mp wr (LBf k) (cutKvs (D.lstj k 4)) ∧ RB < LBf k) ∧
  Blk wr SQ 36 (row16 fun n => if n / 4 < i then D.sv (n / 4) (n % 4) else 0)

def rep14 (g v : ByteArray) (m : Value) : List Value := [.string ⟨#[76]⟩, .int .u64 1, .int .u64 1, .string g, .int .u64 0, .int .u64 0, .string ⟨#[]⟩, .string ⟨#[]⟩, .int .u64 0, .int .u64 0, .slice none 0 0, .map none, .string v, m]
theorem reps_succ (D : LD) (f : Nat → Nat) (LN i : Nat) (hp : D.pr i = true) : D.reps (fun k => if k = i then LN else f k) (i + 1) = D.reps f i ++ [(nameB i, repV (D.gB i) (D.vB i) LN)] := by
  unfold LD.reps
  rw [pickN_succ, if_pos hp, List.map_append]
  congr 1
  · apply List.map_congr_left
    intro k hk
    have : k < i := by
      unfold pickN at hk
      simpa using (List.mem_filter.1 hk).1
    show (nameB k, repV (D.gB k) (D.vB k) (if k = i then LN else f k)) = _
    rw [if_neg (by omega)]
  · simp
theorem reps_none (D : LD) (f : Nat → Nat) (i : Nat) (hp : D.pr i = false) : D.reps f (i + 1) = D.reps f i := by
  unfold LD.reps
  rw [pickN_succ, hp]; simp
theorem reps_keys (D : LD) (f : Nat → Nat) (i : Nat) (hi : i < 4) : ∀ p ∈ D.reps f i, p.1 ≠ nameB i := by
  intro p hp e
  unfold LD.reps at hp
  obtain ⟨k, hk, rfl⟩ := List.mem_map.1 hp
  have : k < i := by
    unfold pickN at hk
    simpa using (List.mem_filter.1 hk).1
  have := nameB_inj (by omega) (by omega) e
  omega
theorem lstj_keys (D : LD) (i j : Nat) (hj : j < 4) : ∀ p ∈ cutKvs (D.lstj i j), p.1 ≠ nameB j := by
  intro p hp e
  unfold cutKvs LD.lstj at hp
  simp only [List.map_map, List.mem_map] at hp
  obtain ⟨k, hk, rfl⟩ := hp
  have : k < j := by
    unfold pickN at hk
    simpa using (List.mem_filter.1 hk).1
  have := nameB_inj (by omega) (by omega) e
  omega

/-- The loop over one report's numbers. -/
def BJ (D : LD) (wd : World) (LN SQ i j : Nat) (wr : World) : Prop :=
  Keep [LN, SQ] wd wr ∧ Mp wr LN (cutKvs (D.lstj i j)) ∧ Blk wr SQ 36 (row16 fun n => if n / 4 < i ∨ (n / 4 = i ∧ n % 4 < j) then D.sv (n / 4) (n % 4) else 0)

set_option maxRecDepth 1000000 in
set_option maxHeartbeats 8000000 in
theorem phaseB (D : LD) (H : D.Ok) (I : LI) (a : Act) (w : World) (HS : SA D I a) (HF : FA D I w)
    (next : ∀ J a' w', SA D I a' → SB1 J a' → FA D I w' → FB D J w' → Code.wp Yba.prog (C3 Yba.f3 11) (LQ D) a' w') : Code.wp Yba.prog (C3 Yba.f3 7) (LQ D) a w := by
  obtain ⟨u, hu, rfl⟩ := frame_of a HS.hs HS.hd
  have e5 := hu 5 _ HS.s5
  have e8 := hu 8 _ HS.s8
  have e10 := hu 10 _ HS.s10
  have e13 := hu 13 _ HS.s13
  have e14 := hu 14 _ HS.s14
  have e15 := hu 15 _ HS.s15
  have e16 := hu 16 _ HS.s16
  have e17 := hu 17 _ HS.s17
  have e19 := hu 19 _ HS.s19
  have HN := unhalt next
  clear hu next HS
  conv => arg 2; whnf
  unfold frame
  simp only [e5, e8, e10, e13, e14, e15, e16, e17, e19]
  have hmk := run_mkmap 34 (w.alloc (.cells #[.string ⟨#[76]⟩, .int .u64 1, .int .u64 1] 33))
  have hB0 : BI D w w.heap.size (w.heap.size + 1) (w.heap.size + 1 + 1) (fun _ => 0) 0 (((w.alloc (.cells #[.string ⟨#[76]⟩, .int .u64 1, .int .u64 1] 33)).alloc (.map #[] 0)).alloc (.cells #[.int .u64 0, .int .u64 0, .int .u64 0, .int .u64 0, .int .u64 0, .int .u64 0, .int .u64 0, .int .u64 0, .int .u64 0, .int .u64 0, .int .u64 0, .int .u64 0, .int .u64 0, .int .u64 0, .int .u64 0, .int .u64 0] 36)) := by
    refine ⟨(((Keep.refl [] w).alloc _).alloc _).alloc _, ((Blk.new w _ 33).alloc _).alloc _, ?_, by intro k hk; omega, (Blk.new' _ _ _ _ (by simp)).cast (by simp [row16, List.range_succ])⟩
    have h1 := heap_alloc_new (w.alloc (.cells #[.string ⟨#[76]⟩, .int .u64 1, .int .u64 1] 33)) (.map #[] 0)
    have hs : (w.alloc (.cells #[.string ⟨#[76]⟩, .int .u64 1, .int .u64 1] 33)).heap.size = w.heap.size + 1 := by simp
    rw [hs] at h1
    exact (Below.heap_alloc _ _ _ (by simp)).trans h1
  go_upto_block 2 with fail
  generalize (((w.alloc (.cells #[.string ⟨#[76]⟩, .int .u64 1, .int .u64 1] 33)).alloc (.map #[] 0)).alloc (.cells #[.int .u64 0, .int .u64 0, .int .u64 0, .int .u64 0, .int .u64 0, .int .u64 0, .int .u64 0, .int .u64 0, .int .u64 0, .int .u64 0, .int .u64 0, .int .u64 0, .int .u64 0, .int .u64 0, .int .u64 0, .int .u64 0] 36)) = wA at hB0 ⊢
  obtain ⟨CH, hCH⟩ : ∃ x, x = w.heap.size := ⟨_, rfl⟩
  obtain ⟨RB, hRB⟩ : ∃ x, x = w.heap.size + 1 := ⟨_, rfl⟩
  obtain ⟨SQ, hSQ⟩ : ∃ x, x = w.heap.size + 1 + 1 := ⟨_, rfl⟩
  rw [← hSQ, ← hRB, ← hCH] at hB0 ⊢
  have i1 : w.heap.size ≤ CH := by omega
  have i2 : w.heap.size ≤ RB := by omega
  have i3 : w.heap.size ≤ SQ := by omega
  have i4 : CH ≠ RB := by omega
  have i5 : CH ≠ SQ := by omega
  have i6 : RB ≠ SQ := by omega
  clear hCH hRB hSQ hmk
  go_cut [23, 24, 25, 26, 27] from 129 to 190 (fun _ _ _ _ _ wc => ∃ f, BI D w CH RB SQ f 4 wc)
  case first =>
    go_wp2_with fail
    go_loopw [23] (fun c wr => ∃ i : Nat, i ≤ 4 ∧ c = .int .i64 i ∧ ∃ f, BI D w CH RB SQ f i wr) (fun v _ => 4 - (intOf v).toNat)
    case atStart => exact ⟨0, by omega, rfl, _, hB0⟩
    case round =>
      obtain ⟨i, hi, rfl, f, hB⟩ := hrel
      clear hB0
      by_cases hi4 : i < 4
      · have hi1 : (i : Int) < 4 := by omega
        have hi0 : (0 : Int) ≤ (i : Int) := by omega
        obtain ⟨b1, b2, b3, b4, b5⟩ := id hB
        have hRPr := b1.blk HF.hRP (by simp)
        have hNMr := b1.blk HF.hNM (by simp)
        obtain ⟨r0, r1, r2, r3⟩ := H.hrp i hi4
        have c0 := hRPr.cell (i * 11)
        rw [r0] at c0
        have c1 := hRPr.cell (i * 11 + 1)
        rw [r1] at c1
        have c2 := hRPr.cell (i * 11 + 2)
        rw [r2] at c2
        have lRP := hRPr.lt
        cases hp : D.pr i with
        | false =>
          rw [hp] at c0
          have hfin : BI D w CH RB SQ f (i + 1) wr := by
            refine ⟨b1, b2, by rw [reps_none D f i hp]; exact b3, fun k hk hpk => ?_, b5.cast (row16_congr fun n hn => ?_)⟩
            · by_cases hki : k = i
              · subst hki; rw [hp] at hpk; cases hpk
              · exact b4 k (by omega) hpk
            · by_cases hn1 : n / 4 < i
              · rw [if_pos hn1, if_pos (by omega)]
              · rw [if_neg hn1]
                by_cases hn2 : n / 4 < i + 1
                · have : n / 4 = i := by omega
                  rw [if_pos hn2, this]; simp [LD.sv, hp]
                · rw [if_neg hn2]
          clear hB b1 b2 b3 b4 b5 r3 c1 c2 hRPr hNMr
          go_wp2
          exact ⟨⟨i + 1, by omega, by go_num, f, hfin⟩, by simp [intOf]; omega⟩
        | true =>
          rw [hp] at c0
          have d0 : wr.cell? ⟨CH, 0, none⟩ = some (.string ⟨#[76]⟩) := b2.cell 0
          have d1 : wr.cell? ⟨CH, 1, none⟩ = some (.int .u64 1) := b2.cell 1
          have d2 : wr.cell? ⟨CH, 2, none⟩ = some (.int .u64 1) := b2.cell 2
          have lCH := b2.lt
          have R0 : Blk (wr.alloc (.cells #[.string ⟨#[76]⟩, .int .u64 1, .int .u64 1, .string ⟨#[]⟩, .int .u64 0, .int .u64 0, .string ⟨#[]⟩, .string ⟨#[]⟩, .int .u64 0, .int .u64 0, .slice none 0 0, .map none, .string ⟨#[]⟩, .map none] 43)) wr.heap.size 43 (rep14 ⟨#[]⟩ ⟨#[]⟩ (.map none)) := Blk.new wr _ 43
          have kA : Keep [] wr (wr.alloc (.cells #[.string ⟨#[76]⟩, .int .u64 1, .int .u64 1, .string ⟨#[]⟩, .int .u64 0, .int .u64 0, .string ⟨#[]⟩, .string ⟨#[]⟩, .int .u64 0, .int .u64 0, .slice none 0 0, .map none, .string ⟨#[]⟩, .map none] 43)) := (Keep.refl [] wr).alloc _
          have hsr := b1.size
          go_upto_if 143 with fail
          generalize (wr.alloc (.cells #[.string ⟨#[76]⟩, .int .u64 1, .int .u64 1, .string ⟨#[]⟩, .int .u64 0, .int .u64 0, .string ⟨#[]⟩, .string ⟨#[]⟩, .int .u64 0, .int .u64 0, .slice none 0 0, .map none, .string ⟨#[]⟩, .map none] 43)) = w1 at R0 kA ⊢
          obtain ⟨rb, hrb⟩ : ∃ x, x = wr.heap.size := ⟨_, rfl⟩
          rw [← hrb] at R0 ⊢
          have hrb1 : wr.heap.size ≤ rb := by omega
          have hRBr := b3.lt
          have hSQr := b5.lt
          clear hrb c0 d0 d1 d2
          go_cut [] from 138 to 145 (fun wc => Keep [] wr wc ∧ Blk wc rb 43 (rep14 (D.gB i) ⟨#[]⟩ (.map none)))
          case first =>
            cases hg : D.gu i with
            | true =>
              have q0 : w1.cell? ⟨rb, 3, none⟩ = some (.string ⟨#[]⟩) := R0.cell 3
              have q1 : w1.cell? ⟨rb, 4, none⟩ = some (.int .u64 0) := R0.cell 4
              have q2 : w1.cell? ⟨rb, 5, none⟩ = some (.int .u64 0) := R0.cell 5
              have f0 := R0.free 3
              have f1 := R0.free 4
              have f2 := R0.free 5
              have lr := R0.lt
              have hfin : Keep [] wr (((w1.setCell ⟨rb, 3, none⟩ (.string ⟨#[103]⟩)).setCell ⟨rb, 4, none⟩ (.int .u64 0)).setCell ⟨rb, 5, none⟩ (.int .u64 0)) ∧ Blk (((w1.setCell ⟨rb, 3, none⟩ (.string ⟨#[103]⟩)).setCell ⟨rb, 4, none⟩ (.int .u64 0)).setCell ⟨rb, 5, none⟩ (.int .u64 0)) rb 43 (rep14 (D.gB i) ⟨#[]⟩ (.map none)) := by
                refine ⟨((kA.setCell _ _ ?_).setCell _ _ ?_).setCell _ _ ?_, by unfold LD.gB; rw [hg]; exact ((R0.set 3 _).set 4 _).set 5 _⟩
                all_goals (intro h; exfalso; dsimp only at h; omega)
              have HFI := unhalt hfin
              clear kA hfin
              go_wp2
              go_meet
              case rel => exact HFI.out
            | false =>
              have hfin : Keep [] wr w1 ∧ Blk w1 rb 43 (rep14 (D.gB i) ⟨#[]⟩ (.map none)) := ⟨kA, by unfold LD.gB; rw [hg]; exact R0⟩
              clear kA
              go_wp2
              go_meet
              case rel => exact hfin
          case rest =>
            obtain ⟨k1, R1⟩ := hcut
            clear R0 kA
            have c1' := k1.cell c1 (by simp)
            have lRP1 : I.RP < wc.heap.size := block_lt_of_cell c1'
            clear c1
            have q12 : wc.cell? ⟨rb, 12, none⟩ = some (.string ⟨#[]⟩) := R1.cell 12
            have f12 := R1.free 12
            have lr := R1.lt
            go_upto_if 149 with fail
            go_cut [] from 146 to 153 (fun wx => Keep [] wr wx ∧ Blk wx rb 43 (rep14 (D.gB i) (D.vB i) (.map none)))
            case first =>
              have hfin : ∀ s, s = D.vB i → Keep [] wr (wc.setCell ⟨rb, 12, none⟩ (.string s)) ∧ Blk (wc.setCell ⟨rb, 12, none⟩ (.string s)) rb 43 (rep14 (D.gB i) (D.vB i) (.map none)) := by
                rintro s rfl
                refine ⟨k1.setCell _ _ ?_, R1.set 12 _⟩
                intro h; exfalso; dsimp only at h; omega
              have HFI := unhalt hfin
              clear hfin k1 R1
              cases ho : D.old i with
              | true =>
                rw [ho] at c1'
                go_wp2
                go_meet
                case rel => exact HFI.out _ (by unfold LD.vB; rw [ho]; rfl)
              | false =>
                rw [ho] at c1'
                go_wp2
                go_meet
                case rel => exact HFI.out _ (by unfold LD.vB; rw [ho]; rfl)
            case rest =>
              obtain ⟨k2, R2⟩ := hcut
              clear k1 R1 c1' lRP1 q12 f12 lr
              have hmk := run_mkmap 37 wc
              have J0 : BJ D (wc.alloc (.map #[] 0)) wc.heap.size SQ i 0 (wc.alloc (.map #[] 0)) := by
                refine ⟨Keep.refl _ _, heap_alloc_new wc _, ((k2.blk b5 (by simp)).alloc _).cast (row16_congr fun n hn => ?_)⟩
                simp
              have kd : Keep [] wr (wc.alloc (.map #[] 0)) := k2.alloc _
              have Rd2 : Blk (wc.alloc (.map #[] 0)) rb 43 (rep14 (D.gB i) (D.vB i) (.map none)) := R2.alloc _
              have hwcs := k2.size
              have hrbL : rb < wc.heap.size := R2.lt
              go_upto_block 4 with fail
              obtain ⟨LN, hLN⟩ : ∃ x, x = wc.heap.size := ⟨_, rfl⟩
              rw [← hLN] at J0 hrbL hwcs ⊢
              generalize (wc.alloc (.map #[] 0)) = wd at J0 kd Rd2 ⊢
              have hLNr : wr.heap.size ≤ LN := hwcs
              have hLN1 : LN ≠ SQ := by omega
              clear hmk hLN hwcs k2 R2 c2 r0 r1 r2
              have HR3 := unhalt r3
              clear r3
              have hRPd := kd.blk hRPr (by simp)
              have hNMd := kd.blk hNMr (by simp)
              have lRPw := HF.hRP.lt
              have lNMw := HF.hNM.lt
              go_cut [26, 27] from 155 to 182 (fun _ _ wx => BJ D wd LN SQ i 4 wx)
              case first =>
                go_wp2_with fail
                go_loopw [26] (fun c wq => ∃ j : Nat, j ≤ 4 ∧ c = .int .i64 j ∧ BJ D wd LN SQ i j wq) (fun v _ => 4 - (intOf v).toNat)
                case atStart => exact ⟨0, by omega, rfl, J0⟩
                case round =>
                  obtain ⟨j, hj, rfl, hJ⟩ := hrel
                  clear J0
                  by_cases hj4 : j < 4
                  · have hj1 : (j : Int) < 4 := by omega
                    have hj0 : (0 : Int) ≤ (j : Int) := by omega
                    obtain ⟨j1, j2, j3⟩ := hJ
                    have hRPq : Blk wr I.RP 26 D.rp := j1.blk hRPd (by simp; omega)
                    have hNMq : Blk wr I.NM 28 namesL := j1.blk hNMd (by simp; omega)
                    obtain ⟨x3, x7⟩ := HR3.out j hj4
                    have c3 := hRPq.cell (i * 11 + 3 + j)
                    rw [x3] at c3
                    have c7 := hRPq.cell (i * 11 + 7 + j)
                    rw [x7] at c7
                    have lRPq := hRPq.lt
                    obtain ⟨hsq0, hsq1⟩ := H.hsq i j
                    cases hh : D.has i j with
                    | false =>
                      rw [hh] at c3
                      have hfin : BJ D wd LN SQ i (j + 1) wr := by
                        refine ⟨j1, by unfold LD.lstj; rw [pickN_succ, hh]; simpa [LD.lstj] using j2, j3.cast (row16_congr fun n hn => ?_)⟩
                        by_cases hn1 : n / 4 < i ∨ (n / 4 = i ∧ n % 4 < j)
                        · rw [if_pos hn1, if_pos (by omega)]
                        · rw [if_neg hn1]
                          by_cases hn2 : n / 4 < i ∨ (n / 4 = i ∧ n % 4 < j + 1)
                          · have h1 : n / 4 = i := by omega
                            have h2 : n % 4 = j := by omega
                            rw [if_pos hn2, h1, h2]; simp [LD.sv, hh]
                          · rw [if_neg hn2]
                      clear j1 j2 j3 hRPq hNMq x3 x7
                      go_wp2
                      exact ⟨⟨j + 1, by omega, by go_num, hfin⟩, by simp [intOf]; omega⟩
                    | true =>
                      rw [hh] at c3
                      have cn := hNMq.cell j
                      rw [names_get j (by omega)] at cn
                      have lNMq := hNMq.lt
                      obtain ⟨w2, hput, p1, p2⟩ := mput wr 37 31 LN (cutKvs (D.lstj i j)) (nameB j) (.int .u64 (D.sq i j % 8)) Yba.underlying37 j2 (lstj_keys D i j hj4)
                      have hSQ2 := p2.blk j3 (by simp; omega)
                      have cs := hSQ2.cell (i * 4 + j)
                      rw [row16_get _ _ (by omega)] at cs
                      have fs := hSQ2.free (i * 4 + j)
                      have ls := hSQ2.lt
                      have hfin : BJ D wd LN SQ i (j + 1) (w2.setCell ⟨SQ, i * 4 + j, none⟩ (.int .u64 (D.sq i j % 8))) := by
                        refine ⟨(j1.trans p2 (by simp)).setCell _ _ (by simp), ?_, (hSQ2.set (i * 4 + j) _).cast ?_⟩
                        · have hk : Keep [SQ] w2 (w2.setCell ⟨SQ, i * 4 + j, none⟩ (.int .u64 (D.sq i j % 8))) := (Keep.refl _ w2).setCell _ _ (by simp)
                          have := hk.mp p1 (by simpa using hLN1)
                          unfold LD.lstj at this ⊢
                          rw [pickN_succ, hh, if_pos rfl]
                          simpa [cutKvs] using this
                        · rw [row16_set]
                          refine row16_congr fun n hn => ?_
                          by_cases hk : n = i * 4 + j
                          · have h1 : n / 4 = i := by omega
                            have h2 : n % 4 = j := by omega
                            rw [if_pos hk, if_pos (by omega), h1, h2]
                            simp [LD.sv, hh, hp]
                          · rw [if_neg hk]
                            by_cases hn1 : n / 4 < i ∨ (n / 4 = i ∧ n % 4 < j)
                            · rw [if_pos hn1, if_pos (by omega)]
                            · rw [if_neg hn1, if_neg (by omega)]
                      have HFI := unhalt hfin
                      clear hfin j1 j2 j3 hRPq hNMq x3 x7 p1 p2 hSQ2
                      go_wp2
                      exact ⟨⟨j + 1, by omega, by go_num, HFI.out⟩, by simp [intOf]; omega⟩
                  · obtain rfl : j = 4 := by omega
                    go_wp2
                    go_meet
                    case rel => exact hJ
              case rest =>
                obtain ⟨j1, j2, j3⟩ := hcut
                clear J0
                have R3 : Blk wc rb 43 (rep14 (D.gB i) (D.vB i) (.map none)) := j1.blk Rd2 (by simp; omega)
                have q13 : wc.cell? ⟨rb, 13, none⟩ = some (.map none) := R3.cell 13
                have f13 := R3.free 13
                have lr := R3.lt
                have R4 := R3.set 13 (.map (some LN))
                have k4 : Keep [LN, SQ, rb] wd (wc.setCell ⟨rb, 13, none⟩ (.map (some LN))) := (j1.mono (by simp)).setCell _ _ (by simp)
                have M4 : Mp (wc.setCell ⟨rb, 13, none⟩ (.map (some LN))) LN (cutKvs (D.lstj i 4)) := ((Keep.refl [rb] wc).setCell ⟨rb, 13, none⟩ (.map (some LN)) (by simp)).mp j2 (by simp; omega)
                have S4 : Blk (wc.setCell ⟨rb, 13, none⟩ (.map (some LN))) SQ 36 _ := ((Keep.refl [rb] wc).setCell ⟨rb, 13, none⟩ (.map (some LN)) (by simp)).blk j3 (by simp; omega)
                go_upto_region 38 with fail
                generalize wc.setCell ⟨rb, 13, none⟩ (.map (some LN)) = we at R4 k4 M4 S4 ⊢
                clear q13 f13 lr R3 j1 j2 j3
                have R5 : Blk we.drew rb 43 (rep14 (D.gB i) (D.vB i) (.map (some LN))) := R4
                have N5 : Blk we.drew I.NM 28 namesL := k4.blk hNMd (by simp; omega)
                have B5 : Mp we RB (D.reps f i) := k4.mp (kd.mp b3 (by simp)) (by simp; omega)
                obtain ⟨w6, hput, p1, p2⟩ := mput we.drew 34 43 RB (D.reps f i) (nameB i) (repV (D.gB i) (D.vB i) LN) Yba.underlying34 B5 (reps_keys D f i hi4)
                have R6 := p2.blk R5 (by simp; omega)
                have N6 := p2.blk N5 (by simp; omega)
                have cn := N5.cell i
                rw [names_get i (by omega)] at cn
                have cn6 := N6.cell i
                rw [names_get i (by omega)] at cn6
                have lNM5 : I.NM < we.heap.size := N5.lt
                have lrb5 : rb < we.heap.size := R5.lt
                have hfin : BI D w CH RB SQ (fun k => if k = i then LN else f k) (i + 1) w6 := by
                  have k6 : Keep [LN, SQ, rb, RB] wd w6 := (k4.drew.mono (by simp)).trans p2 (by simp)
                  have k60 : Keep [LN, SQ, rb, RB] wr w6 := (kd.mono (by simp)).trans k6 (by simp)
                  refine ⟨b1.trans k60 (fun x hx hlt => by simp at hx; omega), k60.blk b2 (by simp; omega), by rw [reps_succ D f LN i hp]; exact p1, fun k hk hpk => ?_, ?_⟩
                  · show Mp w6 (if k = i then LN else f k) _ ∧ RB < (if k = i then LN else f k)
                    by_cases hki : k = i
                    · rw [if_pos hki, hki]
                      exact ⟨p2.mp M4 (by simp; omega), by omega⟩
                    · rw [if_neg hki]
                      obtain ⟨m1, m2⟩ := b4 k (by omega) hpk
                      refine ⟨k60.mp m1 ?_, m2⟩
                      have hlt := m1.lt
                      have hne : f k ≠ SQ := fun e => by rw [e] at m1; have := b5.symm.trans m1; cases this
                      simp; omega
                  · refine (p2.blk S4 (by simp; omega)).cast (row16_congr fun n hn => ?_)
                    by_cases hn1 : n / 4 < i + 1
                    · rw [if_pos hn1, if_pos (by omega)]
                    · rw [if_neg hn1, if_neg (by omega)]
                have HFI := unhalt hfin
                have S0 : we.drew.cell? ⟨I.NM, i, none⟩ = some (.string (nameB i)) ∧ we.drew.cell? ⟨rb, 0, none⟩ = some (.string ⟨#[76]⟩) ∧ we.drew.cell? ⟨rb, 1, none⟩ = some (.int .u64 1) ∧ we.drew.cell? ⟨rb, 2, none⟩ = some (.int .u64 1) ∧ we.drew.cell? ⟨rb, 3, none⟩ = some (.string (D.gB i)) ∧ we.drew.cell? ⟨rb, 4, none⟩ = some (.int .u64 0) ∧ we.drew.cell? ⟨rb, 5, none⟩ = some (.int .u64 0) ∧ we.drew.cell? ⟨rb, 6, none⟩ = some (.string ⟨#[]⟩) ∧ we.drew.cell? ⟨rb, 7, none⟩ = some (.string ⟨#[]⟩) ∧ we.drew.cell? ⟨rb, 8, none⟩ = some (.int .u64 0) ∧ we.drew.cell? ⟨rb, 9, none⟩ = some (.int .u64 0) ∧ we.drew.cell? ⟨rb, 10, none⟩ = some (.slice none 0 0) ∧ we.drew.cell? ⟨rb, 11, none⟩ = some (.map none) ∧ we.drew.cell? ⟨rb, 12, none⟩ = some (.string (D.vB i)) ∧ we.drew.cell? ⟨rb, 13, none⟩ = some (.map (some LN)) := ⟨cn, R5.cell 0, R5.cell 1, R5.cell 2, R5.cell 3, R5.cell 4, R5.cell 5, R5.cell 6, R5.cell 7, R5.cell 8, R5.cell 9, R5.cell 10, R5.cell 11, R5.cell 12, R5.cell 13⟩
                have S6 : w6.cell? ⟨I.NM, i, none⟩ = some (.string (nameB i)) ∧ w6.cell? ⟨rb, 0, none⟩ = some (.string ⟨#[76]⟩) ∧ w6.cell? ⟨rb, 1, none⟩ = some (.int .u64 1) ∧ w6.cell? ⟨rb, 2, none⟩ = some (.int .u64 1) ∧ w6.cell? ⟨rb, 3, none⟩ = some (.string (D.gB i)) ∧ w6.cell? ⟨rb, 4, none⟩ = some (.int .u64 0) ∧ w6.cell? ⟨rb, 5, none⟩ = some (.int .u64 0) ∧ w6.cell? ⟨rb, 6, none⟩ = some (.string ⟨#[]⟩) ∧ w6.cell? ⟨rb, 7, none⟩ = some (.string ⟨#[]⟩) ∧ w6.cell? ⟨rb, 8, none⟩ = some (.int .u64 0) ∧ w6.cell? ⟨rb, 9, none⟩ = some (.int .u64 0) ∧ w6.cell? ⟨rb, 10, none⟩ = some (.slice none 0 0) ∧ w6.cell? ⟨rb, 11, none⟩ = some (.map none) ∧ w6.cell? ⟨rb, 12, none⟩ = some (.string (D.vB i)) ∧ w6.cell? ⟨rb, 13, none⟩ = some (.map (some LN)) := ⟨cn6, R6.cell 0, R6.cell 1, R6.cell 2, R6.cell 3, R6.cell 4, R6.cell 5, R6.cell 6, R6.cell 7, R6.cell 8, R6.cell 9, R6.cell 10, R6.cell 11, R6.cell 12, R6.cell 13⟩
                unfold repV at hput
                have hi5 : (i : Int) < 5 := by omega
                clear hfin cn cn6 R4 R5 R6 N5 N6 B5 M4 S4 k4 kd p1 p2 b1 b2 b3 b4 b5 hB hRPr hNMr Rd2 hRPd hNMd HR3
                go_region_held3 (fun w' => w'.cell? ⟨I.NM, i, none⟩ = some (.string (nameB i)) ∧ w'.cell? ⟨rb, 0, none⟩ = some (.string ⟨#[76]⟩) ∧ w'.cell? ⟨rb, 1, none⟩ = some (.int .u64 1) ∧ w'.cell? ⟨rb, 2, none⟩ = some (.int .u64 1) ∧ w'.cell? ⟨rb, 3, none⟩ = some (.string (D.gB i)) ∧ w'.cell? ⟨rb, 4, none⟩ = some (.int .u64 0) ∧ w'.cell? ⟨rb, 5, none⟩ = some (.int .u64 0) ∧ w'.cell? ⟨rb, 6, none⟩ = some (.string ⟨#[]⟩) ∧ w'.cell? ⟨rb, 7, none⟩ = some (.string ⟨#[]⟩) ∧ w'.cell? ⟨rb, 8, none⟩ = some (.int .u64 0) ∧ w'.cell? ⟨rb, 9, none⟩ = some (.int .u64 0) ∧ w'.cell? ⟨rb, 10, none⟩ = some (.slice none 0 0) ∧ w'.cell? ⟨rb, 11, none⟩ = some (.map none) ∧ w'.cell? ⟨rb, 12, none⟩ = some (.string (D.vB i)) ∧ w'.cell? ⟨rb, 13, none⟩ = some (.map (some LN))) (first | assumption) (fail)
                go_wp2
                exact ⟨⟨i + 1, by omega, by go_num, _, HFI.out⟩, by simp [intOf]; omega⟩
      · obtain rfl : i = 4 := by omega
        go_wp2
        go_meet
        case rel => exact ⟨f, hB⟩
  case rest =>
    obtain ⟨f, b1, b2, b3, b4, b5⟩ := hcut
    rename_i hK
    refine hK _ _ (HN.out ⟨CH, RB, SQ, f⟩ _ _ ⟨rfl, rfl, rfl, rfl, rfl, rfl, rfl, rfl, rfl, rfl, rfl⟩ ⟨rfl, rfl, rfl⟩ (HF.keep b1) ⟨b2, b3, fun k hk hp => (b4 k hk hp).1, b5.cast (row16_congr fun n hn => ?_)⟩)
    rw [if_pos (by omega)]
end Go.Proofs.Ybulkdfze
