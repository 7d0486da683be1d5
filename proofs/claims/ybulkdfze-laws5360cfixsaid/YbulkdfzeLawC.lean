import Derived.Test.YbulkdfzeLawDC
import Derived.Deep.AppendLies
namespace Go.Proofs.Ybulkdfze
open Go Go.RowKit Go.Lib Go.Shelf

/-- One sender's copies under way. -/
def CK (w2 : World) (BF n : Nat) (c : Int) (j : Nat) (v : Value) (wr : World) : Prop :=
  Keep [BF] w2 wr ∧ Blk wr BF 5 (bytesOf c j ++ List.replicate (2 * n - 2 * j) (.int .u8 0)) ∧ wr.ownsRow w2.heap.size 49 4 v j (hcsOf j)

/-- The loop over the kept copies. -/
def CJ (D : LD) (w : World) (KC KM : Nat) (KB : Nat → Nat) (i : Nat) (wr : World) : Prop :=
  Keep [] w wr ∧ Blk wr KC 44 (il fun k => if k < i then D.kk k else 0) ∧ Mp wr KM (D.kkvs KB i) ∧ (∀ k, k < i → D.hask k = true → Copies wr (KB k) (cOf k) (D.kk k))

set_option maxRecDepth 1000000 in
set_option maxHeartbeats 8000000 in
theorem phaseC (D : LD) (H : D.Ok) (I : LI) (J : LB) (a : Act) (w : World) (HS : SA D I a) (HS2 : SB1 J a) (HF : FA D I w)
    (next : ∀ J' a' w', SA D I a' → SB1 J a' → SC J' a' → Keep [] w w' → FC D J' w' → Code.wp Yba.prog (C3 Yba.f3 14) (LQ D) a' w') : Code.wp Yba.prog (C3 Yba.f3 11) (LQ D) a w := by
  obtain ⟨u, hu, rfl⟩ := frame_of a HS.hs HS.hd
  have e5 := hu 5 _ HS.s5
  have e8 := hu 8 _ HS.s8
  have e10 := hu 10 _ HS.s10
  have e13 := hu 13 _ HS.s13
  have e14 := hu 14 _ HS.s14
  have e15 := hu 15 _ HS.s15
  have e16 := hu 16 _ HS.s16
  have e17 := hu 17 _ HS.s17
  have e19 := hu 19 _ HS.s19
  have e20 := hu 20 _ HS2.s20
  have e21 := hu 21 _ HS2.s21
  have e22 := hu 22 _ HS2.s22
  have HN := unhalt next
  clear hu next HS HS2
  conv => arg 2; whnf
  unfold frame
  simp only [e5, e8, e10, e13, e14, e15, e16, e17, e19, e20, e21, e22]
  have hmk := run_mkmap 45 (w.alloc (.cells #[.int .i64 0, .int .i64 0, .int .i64 0, .int .i64 0] 44))
  have hC0 : CJ D w w.heap.size (w.heap.size + 1) (fun _ => 0) 0 ((w.alloc (.cells #[.int .i64 0, .int .i64 0, .int .i64 0, .int .i64 0] 44)).alloc (.map #[] 0)) := by
    refine ⟨((Keep.refl [] w).alloc _).alloc _, (Blk.new w _ 44).alloc _, ?_, by intro k hk; omega⟩
    have h1 := heap_alloc_new (w.alloc (.cells #[.int .i64 0, .int .i64 0, .int .i64 0, .int .i64 0] 44)) (.map #[] 0)
    have hs : (w.alloc (.cells #[.int .i64 0, .int .i64 0, .int .i64 0, .int .i64 0] 44)).heap.size = w.heap.size + 1 := by simp
    rw [hs] at h1
    exact h1
  go_upto_block 6 with fail
  generalize ((w.alloc (.cells #[.int .i64 0, .int .i64 0, .int .i64 0, .int .i64 0] 44)).alloc (.map #[] 0)) = wA at hC0 ⊢
  obtain ⟨KC, hKC⟩ : ∃ x, x = w.heap.size := ⟨_, rfl⟩
  obtain ⟨KM, hKM⟩ : ∃ x, x = w.heap.size + 1 := ⟨_, rfl⟩
  rw [← hKM, ← hKC] at hC0 ⊢
  have i1 : w.heap.size ≤ KC := by omega
  have i2 : w.heap.size ≤ KM := by omega
  have i4 : KC ≠ KM := by omega
  clear hKC hKM hmk
  go_cut [30, 31, 32, 33, 34] from 192 to 241 (fun _ _ _ _ _ wc => ∃ f, CJ D w KC KM f 4 wc)
  case first =>
    go_wp2_with fail
    go_loopw [30] (fun c wr => ∃ i : Nat, i ≤ 4 ∧ c = .int .i64 i ∧ ∃ f, CJ D w KC KM f i wr) (fun v _ => 4 - (intOf v).toNat)
    case atStart => exact ⟨0, by omega, rfl, _, hC0⟩
    case round =>
      obtain ⟨i, hi, rfl, f, hC⟩ := hrel
      clear hC0
      by_cases hi4 : i < 4
      · have hi1 : (i : Int) < 4 := by omega
        have hi5 : (i : Int) < 5 := by omega
        have hi0 : (0 : Int) ≤ (i : Int) := by omega
        obtain ⟨b1, b2, b3, b4⟩ := id hC
        have hKNr := b1.blk HF.hKN (by simp)
        have hNMr := b1.blk HF.hNM (by simp)
        have c0 : wr.cell? ⟨I.KN, i, none⟩ = some (.int .u8 (D.kN i)) := by
          rw [hKNr.cell]
          have : i = 0 ∨ i = 1 ∨ i = 2 ∨ i = 3 := by omega
          rcases this with rfl | rfl | rfl | rfl <;> rfl
        have lKN := hKNr.lt
        obtain ⟨hk0, hk1⟩ := H.hkN i
        have ck := b2.cell i
        rw [il_get _ _ hi4] at ck
        have fk := b2.free i
        have lk := b2.lt
        go_upto_if 205 with fail
        obtain ⟨n, hn⟩ : ∃ n, n = D.kk i := ⟨_, rfl⟩
        have hnk : D.kN i % 8 = (n : Int) := by rw [hn]; unfold LD.kk; omega
        have hn8 : n < 8 := by rw [hn]; exact D.kk_lt i
        have k1 : Keep [KC] wr (wr.setCell ⟨KC, i, none⟩ (.int .i64 (n : Int))) := (Keep.refl _ wr).setCell _ _ (by simp)
        have B1 : Blk (wr.setCell ⟨KC, i, none⟩ (.int .i64 (n : Int))) KC 44 (il fun k => if k < i + 1 then D.kk k else 0) := (b2.set i _).cast (by
          rw [il_set _ i hi4]
          refine il_congr fun k _ => ?_
          by_cases hki : k = i
          · rw [if_pos hki, if_pos (by omega), hn, hki]
          · rw [if_neg hki]
            by_cases hk2 : k < i
            · rw [if_pos hk2, if_pos (by omega)]
            · rw [if_neg hk2, if_neg (by omega)])
        rw [hnk]
        have hKMlt := b3.lt
        have HNK := unhalt hn
        generalize wr.setCell ⟨KC, i, none⟩ (.int .i64 (n : Int)) = w1 at k1 B1 ⊢
        clear hn hnk ck fk lk c0 lKN
        have M1 : Mp w1 KM (D.kkvs f i) := k1.mp b3 (by simpa using fun e => i4 e.symm)
        have C1 : ∀ k, k < i → D.hask k = true → Copies w1 (f k) (cOf k) (D.kk k) := fun k hk hp => (b4 k hk hp).of fun g e cs he hb => k1.blk hb (by simp; exact hb.ne b2 (by rintro rfl; simp at he))
        have K1 : Keep [] w w1 := b1.trans k1 (fun x hx hlt => by simp at hx; omega)
        have N1 : Blk w1 I.NM 28 namesL := k1.blk hNMr (by simp; exact hNMr.ne b2 (by decide))
        clear b1 b2 b3 b4 k1 hC hKNr hNMr
        by_cases hn0 : n = 0
        · subst hn0
          have hh : D.hask i = false := by unfold LD.hask; rw [← HNK.out]; rfl
          have hfin : CJ D w KC KM f (i + 1) w1 := ⟨K1, B1, by rw [kkvs_none D f i hh]; exact M1, fun k hk hp => by
            by_cases hki : k = i
            · subst hki; rw [hh] at hp; cases hp
            · exact C1 k (by omega) hp⟩
          clear K1 B1 M1 C1 N1
          go_wp2
          exact ⟨⟨i + 1, by omega, by go_num, f, hfin⟩, by simp [intOf]; omega⟩
        · have hh : D.hask i = true := by unfold LD.hask; rw [← HNK.out]; simp [hn0]
          have hnpos : (0 : Int) < (n : Int) := by omega
          obtain ⟨i5, hi5', hz50, hz51, hz52⟩ := info_parts info5
          have hn0' : ((n : Int) == 0) = false := by simp; omega
          go_wp2_with (at_make; refine halt ?_)
          refine unhalt ?_
          refine wpList_mk _ rfl _ _ 46 rfl 5 i5 (.int .u8 0) Yba.underlying46 hi5' hz50 hz51 rfl .i64 .i64 _ _ 0 (2 * n) rfl rfl (by omega) (by omega) (by omega) (by rw [hz52]; omega) (by unfold maxLen; omega) ?_
          intro w2 hB2 hg2 _
          have K2 : Keep [] w1 w2 := (Keep.refl [] w1).grown hg2 (by simp)
          obtain ⟨BF, hBF⟩ : ∃ x, x = w1.heap.size := ⟨_, rfl⟩
          rw [← hBF] at hB2 ⊢
          have hBF1 : w1.heap.size ≤ BF := by omega
          have N2 := K2.blk N1 (by simp)
          have J0 : CK w2 BF n (cOf i) 0 (.slice none 0 0) w2 := ⟨Keep.refl _ _, by simpa [bytesOf] using hB2, World.ownsRow_nil ..⟩
          have hBF2 := hB2.lt
          have hw12 := K2.size
          clear hBF hg2 hB2
          go_upto_block 8 with fail
          go_cut [32, 33, 34] from 209 to 231 (fun v32 v33 _ wx => v32 = .slice (some ⟨BF, 0, none⟩) (2 * n) (2 * n) ∧ CK w2 BF n (cOf i) n v33 wx)
          case first =>
            obtain ⟨i49, hi49, hy⟩ := Option.map_eq_some_iff.1 info49
            obtain ⟨hy0, hy1, hy2⟩ : i49.zero.isSome = true ∧ i49.size = 4 ∧ i49.bytes = 32 := by simpa using hy
            obtain ⟨zv, hzv⟩ := Option.isSome_iff_exists.1 hy0
            have hzs : zv.cells.size = 4 := by have := zero49; rw [hi49] at this; simpa [hzv] using this
            clear hy hy0
            go_wp2_with fail
            go_loopw [32, 33, 34] (fun v32 v33 c wq => ∃ j : Nat, j ≤ n ∧ c = .int .i64 ((j : Int) + 1) ∧ v32 = .slice (some ⟨BF, 0, none⟩) (2 * j) (2 * n) ∧ CK w2 BF n (cOf i) j v33 wq) (fun _ _ v _ => 9 - (intOf v).toNat)
            case atStart => exact ⟨0, by omega, rfl, rfl, J0⟩
            case round =>
              obtain ⟨j, hj, rfl, rfl, hJ⟩ := hrel
              clear J0
              by_cases hjn : j < n
              · have hjn' : (j : Int) + 1 ≤ (n : Int) := by omega
                obtain ⟨j1, j2, j3⟩ := hJ
                have N3 := j1.blk N2 (by simp; have := N1.lt; omega)
                have cn := N3.cell i
                rw [names_get i (by omega)] at cn
                have lN3 := N3.lt
                have hns := nameB_size i
                have hnf := nameB_first i (by omega)
                go_wp2_with (at_builtin; refine halt ?_)
                refine unhalt ?_
                clear hnf hns cn lN3
                have ka : Keep [] wr (wr.alloc (.cells #[.int .u8 ((j : Int) + 1), .int .u8 (97 + (i : Int))] 5)) := (Keep.refl [] wr).alloc _
                have hnb := Blk.new' wr #[.int .u8 ((j : Int) + 1), .int .u8 (97 + (i : Int))] 5 wr.heap.size rfl
                generalize wr.alloc (.cells #[.int .u8 ((j : Int) + 1), .int .u8 (97 + (i : Int))] 5) = wa at ka hnb ⊢
                have hBFr := j2.lt
                refine wpList_app_room _ rfl (.tmp 214) (.tmp 221) 46 rfl 5 i5 Yba.underlying46 hi5' hz51 BF 0 (2 * j) (2 * n) rfl (some ⟨wr.heap.size, 0, none⟩) 2 2 rfl _ [.int .u8 ((j : Int) + 1), .int .u8 (97 + (i : Int))] (ka.blk j2 (by simp)) (Rd.of_blk hnb 0 _ (by simp)) rfl (by simp [Value.oneCell']) (by omega) (by simp [bytesOf_len]; omega) ?_
                intro wb hBb hgb hsb
                clear hsb
                have kb : Keep [BF] wr wb := (ka.mono (by simp)).grown hgb (by intro k hk _; cases hk; simp)
                have hBb' : Blk wb BF 5 (bytesOf (cOf i) (j + 1) ++ List.replicate (2 * n - 2 * (j + 1)) (.int .u8 0)) := hBb.cast (by
                  rw [bytesOf_succ]
                  have hl := bytesOf_len (cOf i) j
                  unfold splice
                  rw [Nat.zero_add, List.take_left' (by omega), List.drop_append, List.drop_eq_nil_of_le (by simp; omega), List.nil_append, List.drop_replicate, hl, List.append_assoc]
                  congr 2
                  simp only [List.length_cons, List.length_nil]
                  congr 1
                  omega)
                have o3 : wb.ownsRow w2.heap.size 49 4 u33 j (hcsOf j) := ⟨j3.1, orR j3.2 fun ⟨g, cap, cur, a1, a2, a3, a4⟩ => ⟨g, cap, cur, a1, a2, (kb.block g (Array.getElem?_eq_some_iff.1 a3).1 (by simp; rintro rfl; have := j2.symm.trans a3; cases this)).trans a3, a4⟩⟩
                have k3 : Keep [BF] w2 wb := j1.trans kb (by simp)
                clear hBb hgb ka hnb kb N3
                go_wp2_with (at_builtin; refine halt ?_)
                refine unhalt ?_
                have ka : Keep [] wb (wb.alloc (.cells #[.int .u64 ((j : Int) + 1), .int .u64 0, .int .i64 (2 * (j : Int)), .int .i64 2] 49)) := (Keep.refl [] wb).alloc _
                have hnb := Blk.new' wb #[.int .u64 ((j : Int) + 1), .int .u64 0, .int .i64 (2 * (j : Int)), .int .i64 2] 49 wb.heap.size rfl
                have o4 := o3.alloc (.cells #[.int .u64 ((j : Int) + 1), .int .u64 0, .int .i64 (2 * (j : Int)), .int .i64 2] 49)
                generalize wb.alloc (.cells #[.int .u64 ((j : Int) + 1), .int .u64 0, .int .i64 (2 * (j : Int)), .int .i64 2] 49) = wd at ka hnb o4 ⊢
                refine wpList_append_own _ rfl (.tmp 223) (.tmp 230) 47 rfl w2.heap.size 49 i49 zv 4 32 Yba.underlying47 hi49 hzv hy1 hy2 hzs (by decide) u33 j _ rfl o4 ⟨wb.heap.size, 0, none⟩ 1 1 [.int .u64 ((j : Int) + 1), .int .u64 0, .int .i64 (2 * (j : Int)), .int .i64 2] rfl rfl ?_ (by simp [Value.oneCell']) (by unfold maxLen; omega) (by omega) (Nat.le_trans k3.size ka.size) ?_
                · intro k u hk
                  rw [Addr.add_lit, hnb.cell (0 + k), Nat.zero_add]; exact hk
                intro v5 w5 o5 hg5 _
                have hfin : CK w2 BF n (cOf i) (j + 1) v5 w5 := by
                  refine ⟨(k3.trans ka (by simp)).grown hg5 (fun x hx hlt => by have := (owns_lt o4 x hx).1; omega), (ka.blk hBb' (by simp)).kept hg5 (fun e => ?_), ?_⟩
                  · obtain ⟨c, fr, ht⟩ := (owns_lt o4 BF e.symm).2
                    have := (ka.blk hBb' (by simp)).symm.trans ht
                    cases this
                  · rw [hcsOf_succ]
                    have he : hElem j = [.int .u64 ((j : Int) + 1), .int .u64 0, .int .i64 (2 * (j : Int)), .int .i64 2] := by simp [hElem]
                    rw [he]
                    exact o5
                have HFI := unhalt hfin
                clear hfin o5 hg5 o4 hnb ka o3 hBb' k3 j1 j2 j3
                go_wp2
                exact ⟨⟨j + 1, by omega, by go_num, by first | rfl | (congr 1; omega), HFI.out⟩, by simp [intOf]; omega⟩
              · obtain rfl : j = n := by omega
                go_wp2
                go_meet
                case rel => exact ⟨rfl, hJ⟩
          case rest =>
            obtain ⟨rfl, j1, j2, j3⟩ := hcut
            have j2' : Blk wc BF 5 (bytesOf (cOf i) n) := j2.cast (by simp)
            obtain ⟨HSb, cap, hv⟩ : ∃ g cap, u33 = .slice (some ⟨g, 0, none⟩) n cap := by
              rcases j3.2 with ⟨_, h⟩ | ⟨g, cap, cur, h, _⟩
              · omega
              · exact ⟨g, cap, h⟩
            subst hv
            have N3 := j1.blk N2 (by simp; have := N1.lt; omega)
            have cn := N3.cell i
            rw [names_get i (by omega)] at cn
            have lN3 := N3.lt
            have hkw : Keep [] w1 wc := K2.trans j1 (fun x hx hlt => by simp at hx; omega)
            have kW : Keep [] wc ((wc.alloc (.cells #[.slice (some ⟨BF, 0, none⟩) (2 * n) (2 * n), .bool false] 52)).alloc (.cells #[.slice (some ⟨HSb, 0, none⟩) n cap, .int .i64 0, .slice (some ⟨wc.heap.size, 0, none⟩) 1 1, .int .u64 0] 55)) := ((Keep.refl [] wc).alloc _).alloc _
            have P1 : Blk ((wc.alloc (.cells #[.slice (some ⟨BF, 0, none⟩) (2 * n) (2 * n), .bool false] 52)).alloc (.cells #[.slice (some ⟨HSb, 0, none⟩) n cap, .int .i64 0, .slice (some ⟨wc.heap.size, 0, none⟩) 1 1, .int .u64 0] 55)) wc.heap.size 52 [.slice (some ⟨BF, 0, none⟩) (2 * n) (2 * n), .bool false] := (Blk.new wc _ 52).alloc _
            have P2 : Blk ((wc.alloc (.cells #[.slice (some ⟨BF, 0, none⟩) (2 * n) (2 * n), .bool false] 52)).alloc (.cells #[.slice (some ⟨HSb, 0, none⟩) n cap, .int .i64 0, .slice (some ⟨wc.heap.size, 0, none⟩) 1 1, .int .u64 0] 55)) (wc.heap.size + 1) 55 [.slice (some ⟨HSb, 0, none⟩) n cap, .int .i64 0, .slice (some ⟨wc.heap.size, 0, none⟩) 1 1, .int .u64 0] := Blk.new' _ _ _ _ (by simp)
            obtain ⟨w6, hput, p1, p2⟩ := mput ((wc.alloc (.cells #[.slice (some ⟨BF, 0, none⟩) (2 * n) (2 * n), .bool false] 52)).alloc (.cells #[.slice (some ⟨HSb, 0, none⟩) n cap, .int .i64 0, .slice (some ⟨wc.heap.size, 0, none⟩) 1 1, .int .u64 0] 55)) 45 50 KM (D.kkvs f i) (nameB i) (.pointer (some ⟨wc.heap.size + 1, 0, none⟩)) Yba.underlying45 (kW.mp (hkw.mp M1 (by simp)) (by simp)) (kkvs_keys D f i hi4)
            have hfin : ∃ f', CJ D w KC KM f' (i + 1) w6 := by
              have k61 : Keep [KM] w1 w6 := ((hkw.trans kW (by simp)).mono (by simp)).trans p2 (by simp)
              have up : ∀ {g e cs}, Blk w1 g e cs → Blk w6 g e cs := fun hb => k61.blk hb (by simp; rintro rfl; have := hb.symm.trans M1; cases this)
              have up2 : ∀ {g e cs}, Blk wc g e cs → Blk w6 g e cs := fun hb => p2.blk (kW.blk hb (by simp)) (by simp; rintro rfl; have := hb.symm.trans (hkw.mp M1 (by simp)); cases this)
              have hMW := kW.mp (hkw.mp M1 (by simp)) (by simp)
              have upW : ∀ {g e cs}, Blk ((wc.alloc (.cells #[.slice (some ⟨BF, 0, none⟩) (2 * n) (2 * n), .bool false] 52)).alloc (.cells #[.slice (some ⟨HSb, 0, none⟩) n cap, .int .i64 0, .slice (some ⟨wc.heap.size, 0, none⟩) 1 1, .int .u64 0] 55)) g e cs → Blk w6 g e cs := fun hb => p2.blk hb (by simp; rintro rfl; have := hb.symm.trans hMW; cases this)
              refine ⟨fun k => if k = i then wc.heap.size + 1 else f k, K1.trans k61 (fun x hx hlt => by simp at hx; omega), up B1, by rw [kkvs_succ D f _ i hh]; exact p1, fun k hk hp => ?_⟩
              show Copies w6 (if k = i then wc.heap.size + 1 else f k) _ _
              by_cases hki : k = i
              · rw [if_pos hki, hki, ← HNK.out]
                have o6 : w6.ownsRow w2.heap.size 49 4 (.slice (some ⟨HSb, 0, none⟩) n cap) n (hcsOf n) := by
                  refine ⟨j3.1, orR j3.2 fun ⟨g, cap, cur, a1, a2, a3, a4⟩ => ⟨g, cap, cur, a1, a2, ?_, a4⟩⟩
                  have hb' : Blk wc g 49 cur.toList := by unfold Blk; simpa using a3
                  simpa [Blk] using up2 hb'
                exact copies_made (upW P2) o6 rfl (upW P1) (up2 j2') (Nat.le_refl _)
              · rw [if_neg hki]
                exact (C1 k (by omega) hp).of fun g e cs _ hb => up hb
            have HFI := unhalt hfin
            clear hfin p1 p2 P1 P2 kW hkw j1 j2 j2' j3 K1 B1 M1 C1 N1 N2 N3 K2 J0
            go_wp2
            exact ⟨⟨i + 1, by omega, by go_num, HFI.out⟩, by simp [intOf]; omega⟩
      · obtain rfl : i = 4 := by omega
        go_wp2
        go_meet
        case rel => exact ⟨f, hC⟩
  case rest =>
    obtain ⟨f, b1, b2, b3, b4⟩ := hcut
    rename_i hK
    refine hK _ _ (HN.out ⟨KC, KM, f⟩ _ _ ⟨rfl, rfl, rfl, rfl, rfl, rfl, rfl, rfl, rfl, rfl, rfl⟩ ⟨rfl, rfl, rfl⟩ ⟨rfl, rfl⟩ b1 ⟨b2.cast (il_congr fun k hk => ?_), b3, b4⟩)
    rw [if_pos (by omega)]
end Go.Proofs.Ybulkdfze
