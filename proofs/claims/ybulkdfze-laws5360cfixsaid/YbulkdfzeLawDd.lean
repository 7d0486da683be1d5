import Derived.Test.YbulkdfzeLawDD
namespace Go.Proofs.Ybulkdfze
open Go Go.RowKit Go.Lib Go.Shelf

/-- The loop over what is held. -/
def DI (D : LD) (w : World) (HF HQ HR j : Nat) (wr : World) : Prop :=
  Keep [] w wr ∧ (∃ rs, rs.length = D.held.length - j ∧ Blk wr HF 3 (fromsL (D.held.take j) ++ rs)) ∧ (∃ rs, rs.length = D.held.length - j ∧ Blk wr HQ 31 (seqsL (D.held.take j) ++ rs)) ∧
  ∃ hs, hs.length = j ∧ HsOk D wr hs ∧ ∃ rs, rs.length = (D.held.length - j) * 5 ∧ Blk wr HR 64 (flat vone hs ++ rs)

set_option maxRecDepth 1000000 in
set_option maxHeartbeats 8000000 in
theorem phaseD (D : LD) (H : D.Ok) (I : LI) (J : LB) (J2 : LC) (a : Act) (w : World) (HS : SA D I a) (HS2 : SB1 J a) (HS3 : SC J2 a) (HF : FA D I w)
    (next : ∀ J' a' w', SA D I a' → SB1 J a' → SC J2 a' → SD D J' a' → Keep [] w w' → FD D J' w' → Code.wp Yba.prog (C3 Yba.f3 18) (LQ D) a' w') : Code.wp Yba.prog (C3 Yba.f3 14) (LQ D) a w := by
  obtain ⟨u, hu, rfl⟩ := frame_of a HS.hs HS.hd
  have e5 := hu 5 _ HS.s5
  have e8 := hu 8 _ HS.s8
  have e10 := hu 10 _ HS.s10
  have e13 := hu 13 _ HS.s13
  have e14 := hu 14 _ HS.s14
  have e15 := hu 15 _ HS.s15
  have e16 := hu 16 _ HS.s16
  have e17 := hu 17 _ HS.s17
  have e19 := hu 19 _ HS.s19
  have e20 := hu 20 _ HS2.s20
  have e21 := hu 21 _ HS2.s21
  have e22 := hu 22 _ HS2.s22
  have e28 := hu 28 _ HS3.s28
  have e29 := hu 29 _ HS3.s29
  have HN := unhalt next
  clear hu next HS HS2 HS3
  conv => arg 2; whnf
  unfold frame
  simp only [e5, e8, e10, e13, e14, e15, e16, e17, e19, e20, e21, e22, e28, e29]
  obtain ⟨i3, hi3, hy⟩ := Option.map_eq_some_iff.1 info3
  obtain ⟨hy0, h31, h32⟩ : i3.zero.isSome = true ∧ i3.size = 1 ∧ i3.bytes = 8 := by simpa using hy
  obtain ⟨z3, hz3⟩ := Option.isSome_iff_exists.1 hy0
  clear hy hy0
  obtain ⟨iu, hiu, hy⟩ := Option.map_eq_some_iff.1 info31b
  obtain ⟨hy0, hu1, hu2⟩ : iu.zero.isSome = true ∧ iu.size = 1 ∧ iu.bytes = 8 := by simpa using hy
  obtain ⟨zu, hzu⟩ := Option.isSome_iff_exists.1 hy0
  clear hy hy0
  obtain ⟨i6, hi6, hy⟩ := Option.map_eq_some_iff.1 info64
  obtain ⟨hy0, h61, h62⟩ : i6.zero.isSome = true ∧ i6.size = 5 ∧ i6.bytes = 72 := by simpa using hy
  obtain ⟨z6, hz6⟩ := Option.isSome_iff_exists.1 hy0
  clear hy hy0
  obtain ⟨n, hn⟩ : ∃ n, n = D.held.length := ⟨_, rfl⟩
  have hn2 : n ≤ 1024 := by rw [hn]; exact H.lheld
  have HNN := unhalt hn
  rw [← hn]
  clear hn
  go_wp2_with (at_make; refine halt ?_)
  refine unhalt ?_
  refine wpList_mk_k _ rfl _ _ 56 rfl 3 i3 z3 1 Yba.underlying56 hi3 hz3 h31 .i64 .i64 _ _ 0 n rfl rfl (by omega) (by omega) (by omega) (by rw [h32]; omega) (by unfold maxLen; omega) ?_
  intro w1 cs1 l1 B1 g1 s1
  have K1 : Keep [] w w1 := (Keep.refl [] w).grown g1 (by simp)
  obtain ⟨HFb, hHF⟩ : ∃ x, x = w.heap.size := ⟨_, rfl⟩
  rw [← hHF] at B1 ⊢
  have q1 : w.heap.size ≤ HFb := by omega
  have q1' : HFb < w1.heap.size := B1.lt
  clear g1 s1 hHF
  go_wp2_with (at_make; refine halt ?_)
  refine unhalt ?_
  refine wpList_mk_k _ rfl _ _ 57 rfl 31 iu zu 1 Yba.underlying57 hiu hzu hu1 .i64 .i64 _ _ 0 n rfl rfl (by omega) (by omega) (by omega) (by rw [hu2]; omega) (by unfold maxLen; omega) ?_
  intro w2 cs2 l2 B2 g2 s2
  have K2 : Keep [] w1 w2 := (Keep.refl [] w1).grown g2 (by simp)
  obtain ⟨HQ, hHQ⟩ : ∃ x, x = w1.heap.size := ⟨_, rfl⟩
  rw [← hHQ] at B2 ⊢
  have q2 : w1.heap.size ≤ HQ := by omega
  have q2' : HQ < w2.heap.size := B2.lt
  clear g2 s2 hHQ
  go_wp2_with (at_make; refine halt ?_)
  refine unhalt ?_
  refine wpList_mk_k _ rfl _ _ 58 rfl 64 i6 z6 5 Yba.underlying58 hi6 hz6 h61 .i64 .i64 _ _ 0 n rfl rfl (by omega) (by omega) (by omega) (by rw [h62]; omega) (by unfold maxLen; omega) ?_
  intro w3 cs3 l3 B3 g3 s3
  have K3 : Keep [] w2 w3 := (Keep.refl [] w2).grown g3 (by simp)
  obtain ⟨HR, hHR⟩ : ∃ x, x = w2.heap.size := ⟨_, rfl⟩
  rw [← hHR] at B3 ⊢
  have q3 : w2.heap.size ≤ HR := by omega
  clear g3 s3 hHR
  have kw1 := K1.size
  have kw2 := K2.size
  have D0 : DI D w HFb HQ HR 0 w3 := by
    refine ⟨(K1.trans K2 (by simp)).trans K3 (by simp), ⟨cs1, by rw [← HNN.out]; omega, by simpa [fromsL] using K3.blk (K2.blk B1 (by simp)) (by simp)⟩, ⟨cs2, by rw [← HNN.out]; omega, by simpa [seqsL] using K3.blk B2 (by simp)⟩, [], rfl, ?_, cs3, by rw [← HNN.out]; omega, by simpa [flat] using B3⟩
    intro k p q hp; simp at hp
  clear B1 B2 B3 l1 l2 l3 K1 K2 K3
  go_upto_block 10 with fail
  go_cut [35, 36, 37, 39, 40, 41] from 253 to 289 (fun v35 v36 v37 _ _ _ wc => v35 = .slice (some ⟨HFb, 0, none⟩) n n ∧ v36 = .slice (some ⟨HQ, 0, none⟩) n n ∧ v37 = .slice (some ⟨HR, 0, none⟩) n n ∧ DI D w HFb HQ HR n wc)
  case first =>
    go_wp2_with fail
    go_loopw [35, 36, 37, 253] (fun v35 v36 v37 c wr => ∃ j : Nat, j ≤ n ∧ c = .int .i64 j ∧ v35 = .slice (some ⟨HFb, 0, none⟩) j n ∧ v36 = .slice (some ⟨HQ, 0, none⟩) j n ∧ v37 = .slice (some ⟨HR, 0, none⟩) j n ∧ DI D w HFb HQ HR j wr) (fun _ _ _ v _ => n - (intOf v).toNat)
    case atStart => exact ⟨0, by omega, rfl, rfl, rfl, rfl, D0⟩
    case round =>
      obtain ⟨j, hj, rfl, rfl, rfl, rfl, hD⟩ := hrel
      clear D0
      by_cases hjn : j < n
      · obtain ⟨q, hq⟩ : ∃ q, D.held[j]? = some q := ⟨D.held[j]'(by have := HNN.out; omega), List.getElem?_eq_getElem (by have := HNN.out; omega)⟩
        obtain ⟨d1, ⟨rs1, d2, d3⟩, ⟨rs2, d4, d5⟩, hs, d6, d7, rs3, d8, d9⟩ := hD
        obtain ⟨ad, had⟩ : ∃ ad, D.hao = some ad := by
          cases hh : D.hao with
          | none =>
            have := H.hrd.1 hh
            have hl : (hcells D.held).length = 0 := by rw [this]; rfl
            have h2 := (hcells_get hq).1
            rw [this] at h2
            simp at h2
          | some ad => exact ⟨ad, rfl⟩
        obtain ⟨x0, x1⟩ := hcells_get hq
        have kk := HF.k0.trans d1 (by simp)
        have c0 := kk.cell (H.hrd.2 ad had _ _ x0) (by simp)
        have c1 : wr.cell? ⟨(ad.add (j * 2)).block, (ad.add (j * 2)).off + 1, none⟩ = some (.int .u8 q.2) := by
          have h := kk.cell (H.hrd.2 ad had _ _ x1) (by simp)
          rw [← addr_add2] at h
          exact h
        obtain ⟨⟨hf0, hf1⟩, hs0, hs1⟩ := H.hheld q (List.mem_of_getElem? hq)
        rw [had]
        have hfi := fi_lt q
        have hfi2 : q.1 % 4 = (fiOf q : Int) := by unfold fiOf; omega
        have NMr := d1.blk HF.hNM (by simp)
        go_wp2_with (at_builtin; refine halt ?_)
        refine unhalt ?_
        have ka : Keep [] wr ((wr.alloc (.cells #[.int .u8 q.1, .int .u8 q.2] 60)).alloc (.cells #[.int .i64 (fiOf q : Int)] 3)) := ((Keep.refl [] wr).alloc _).alloc _
        have hnb := Blk.new' (wr.alloc (.cells #[.int .u8 q.1, .int .u8 q.2] 60)) #[.int .i64 (fiOf q : Int)] 3 (wr.heap.size + 1) (by simp)
        have hq6 : Blk ((wr.alloc (.cells #[.int .u8 q.1, .int .u8 q.2] 60)).alloc (.cells #[.int .i64 (fiOf q : Int)] 3)) wr.heap.size 60 [.int .u8 q.1, .int .u8 q.2] := (Blk.new wr _ 60).alloc _
        generalize ((wr.alloc (.cells #[.int .u8 q.1, .int .u8 q.2] 60)).alloc (.cells #[.int .i64 (fiOf q : Int)] 3)) = wa at ka hnb hq6 ⊢
        clear c0 c1 x0 x1 hq6
        have hnl1 : D.held.length ≤ n := by have := HNN.out; omega
        have hnl2 : n ≤ D.held.length := by have := HNN.out; omega
        have ht1 : D.held.take (j + 1) = D.held.take j ++ [q] := by rw [List.take_add_one, hq]; rfl
        have HT1 := unhalt ht1
        clear ht1
        have ljt : (D.held.take j).length = j := by simp; omega
        refine wpList_app_room_k _ rfl (.tmp 265) (.tmp 267) 56 rfl 3 i3 1 Yba.underlying56 hi3 h31 HFb 0 j n rfl ⟨wr.heap.size + 1, 0, none⟩ 1 1 rfl _ [.int .i64 (fiOf q : Int)] (ka.blk d3 (by simp)) rfl ?_ (by simp [Value.oneCell']) (by omega) (by simp [fromsL]; omega) ?_
        · intro k u hk
          rw [Addr.add_lit, hnb.cell (0 + k), Nat.zero_add]; exact hk
        intro wb Bb gb sb
        have Bb' : Blk wb HFb 3 (fromsL (D.held.take (j + 1)) ++ rs1.drop 1) := Bb.cast (by
          rw [Nat.zero_add, Nat.mul_one, splice_at _ _ _ j (by simp [fromsL]; omega), HT1.out]
          simp [fromsL])
        have kb : Keep [HFb] wr wb := (ka.mono (by simp)).grown gb (by intro k hk _; cases hk; simp)
        have hQF : HQ ≠ HFb := by omega
        have hRF : HR ≠ HFb := by omega
        have hRQ : HR ≠ HQ := by omega
        have d5b := kb.blk d5 (by simpa using hQF)
        have lrw := d1.size
        have d3k := d3
        have d5k := d5
        clear Bb gb sb ka hnb d3
        go_wp2_with (at_builtin; refine halt ?_)
        refine unhalt ?_
        have ka : Keep [] wb (wb.alloc (.cells #[.int .u64 (q.2 % 10)] 31)) := (Keep.refl [] wb).alloc _
        have hnb := Blk.new' wb #[.int .u64 (q.2 % 10)] 31 wb.heap.size rfl
        generalize wb.alloc (.cells #[.int .u64 (q.2 % 10)] 31) = wa2 at ka hnb ⊢
        refine wpList_app_room_k _ rfl (.tmp 269) (.tmp 271) 57 rfl 31 iu 1 Yba.underlying57 hiu hu1 HQ 0 j n rfl ⟨wb.heap.size, 0, none⟩ 1 1 rfl _ [.int .u64 (q.2 % 10)] (ka.blk d5b (by simp)) rfl ?_ (by simp [Value.oneCell']) (by omega) (by simp [seqsL]; omega) ?_
        · intro k u hk
          rw [Addr.add_lit, hnb.cell (0 + k), Nat.zero_add]; exact hk
        intro wd Bd gd sd
        have Bd' : Blk wd HQ 31 (seqsL (D.held.take (j + 1)) ++ rs2.drop 1) := Bd.cast (by
          rw [Nat.zero_add, Nat.mul_one, splice_at _ _ _ j (by simp [seqsL]; omega), HT1.out]
          simp [seqsL])
        have kd : Keep [HFb, HQ] wr wd := ((kb.mono (by simp)).trans ka (by simp)).grown gd (by intro k hk _; cases hk; simp)
        have Bb2 : Blk wd HFb 3 (fromsL (D.held.take (j + 1)) ++ rs1.drop 1) := (ka.blk Bb' (by simp)).kept gd (by intro e; cases e; exact hQF rfl)
        clear Bd gd sd ka hnb Bb' kb d5 d5b
        have Nd := kd.blk NMr (by simp; have := HF.hNM.lt; omega)
        have Rd9 := kd.blk d9 (by simp; omega)
        have hns := nameB_size (fiOf q)
        have hnf := nameB_first (fiOf q) (by omega)
        have hfi3 : ((fiOf q : Nat) : Int) < 5 := by omega
        have hfi4 : (0 : Int) ≤ ((fiOf q : Nat) : Int) := by omega
        have SK : ∀ w', Keep [] wd w' → w'.cell? ⟨I.NM, fiOf q, none⟩ = some (.string (nameB (fiOf q))) := fun w' k => by
          have := (k.blk Nd (by simp)).cell (fiOf q)
          rw [names_get _ (by omega)] at this
          exact this
        have S0 := SK wd.drew (Keep.refl [] wd).drew
        have hR5 : ∀ w', Keep [] wd w' → Blk w' HR 64 (flat vone hs ++ rs3) := fun w' k => k.blk Rd9 (by simp)
        have lfl : (flat vone hs).length = j * 5 := by rw [flat_len, d6]
        have hNR : I.NM ≠ HR := NMr.ne d9 (by decide)
        have hwr := wrap_u8 (q.2 % 10) (by omega) (by omega)
        have KW : Keep [] wd (((wd.alloc (.cells #[.int .u8 (q.2 % 10), .int .u8 (97 + (fiOf q : Int))] 5)).alloc (.cells #[.string (nameB (fiOf q)), .string ⟨#[118, 49]⟩, .int .u64 (q.2 % 10), .slice (some ⟨wd.heap.size, 0, none⟩) 2 2, .int .i64 0] 64)).drew) := (((Keep.refl [] wd).alloc _).alloc _).drew
        have hnews : ∀ k u, (rcells vone (nameB (fiOf q), q.2 % 10, ⟨wd.heap.size, 0, none⟩, q.2 % 10, 97 + (fiOf q : Int)))[k]? = some u → (((wd.alloc (.cells #[.int .u8 (q.2 % 10), .int .u8 (97 + (fiOf q : Int))] 5)).alloc (.cells #[.string (nameB (fiOf q)), .string ⟨#[118, 49]⟩, .int .u64 (q.2 % 10), .slice (some ⟨wd.heap.size, 0, none⟩) 2 2, .int .i64 0] 64)).drew).cell? ((⟨wd.heap.size + 1, 0, none⟩ : Addr).add k) = some u := fun k u hk => by
          have hb := (Blk.new' (wd.alloc (.cells #[.int .u8 (q.2 % 10), .int .u8 (97 + (fiOf q : Int))] 5)) #[.string (nameB (fiOf q)), .string ⟨#[118, 49]⟩, .int .u64 (q.2 % 10), .slice (some ⟨wd.heap.size, 0, none⟩) 2 2, .int .i64 0] 64 (wd.heap.size + 1) (by simp)).drew
          rw [Addr.add_lit, hb.cell (0 + k), Nat.zero_add]; exact hk
        have hmsg : Blk (((wd.alloc (.cells #[.int .u8 (q.2 % 10), .int .u8 (97 + (fiOf q : Int))] 5)).alloc (.cells #[.string (nameB (fiOf q)), .string ⟨#[118, 49]⟩, .int .u64 (q.2 % 10), .slice (some ⟨wd.heap.size, 0, none⟩) 2 2, .int .i64 0] 64)).drew) wd.heap.size 5 [.int .u8 (q.2 % 10), .int .u8 (97 + (fiOf q : Int))] := ((Blk.new wd _ 5).alloc _).drew
        have hfit : 0 + j * 5 + 1 * 5 ≤ (flat vone hs ++ rs3).length := by rw [List.length_append, lfl]; omega
        have hFIN : ∀ w6, Blk w6 HR 64 (splice (flat vone hs ++ rs3) (0 + j * 5) (rcells vone (nameB (fiOf q), q.2 % 10, ⟨wd.heap.size, 0, none⟩, q.2 % 10, 97 + (fiOf q : Int)))) → World.grownBy (((wd.alloc (.cells #[.int .u8 (q.2 % 10), .int .u8 (97 + (fiOf q : Int))] 5)).alloc (.cells #[.string (nameB (fiOf q)), .string ⟨#[118, 49]⟩, .int .u64 (q.2 % 10), .slice (some ⟨wd.heap.size, 0, none⟩) 2 2, .int .i64 0] 64)).drew) w6 (some HR) → Hid (DI D w HFb HQ HR (j + 1) w6) ∧ w6.cell? ⟨I.NM, fiOf q, none⟩ = some (.string (nameB (fiOf q))) := fun w6 B6 g6 => by
          have k6 : Keep [HFb, HQ, HR] wr w6 := ((kd.trans KW (by simp)).mono (by simp)).grown g6 (by intro k hk _; cases hk; simp)
          have up : ∀ {g e cs}, Blk (((wd.alloc (.cells #[.int .u8 (q.2 % 10), .int .u8 (97 + (fiOf q : Int))] 5)).alloc (.cells #[.string (nameB (fiOf q)), .string ⟨#[118, 49]⟩, .int .u64 (q.2 % 10), .slice (some ⟨wd.heap.size, 0, none⟩) 2 2, .int .i64 0] 64)).drew) g e cs → e ≠ 64 → Blk w6 g e cs := fun hb he => hb.kept g6 (by intro e; cases e; exact absurd rfl (hb.ne (hR5 _ KW) he))
          refine ⟨⟨d1.trans k6 (fun x hx hlt => by simp at hx; omega), ⟨rs1.drop 1, by simp; omega, up (KW.blk Bb2 (by simp)) (by decide)⟩, ⟨rs2.drop 1, by simp; omega, up (KW.blk Bd' (by simp)) (by decide)⟩, hs ++ [(nameB (fiOf q), q.2 % 10, ⟨wd.heap.size, 0, none⟩, q.2 % 10, 97 + (fiOf q : Int))], by simp [d6], ?_, rs3.drop 5, by simp; omega, B6.cast ?_⟩, ?_⟩
          · refine HsOk.snoc (HsOk.keep d7 fun g cs hb => ?_) (by rw [d6]; exact hq) ⟨rfl, rfl, rfl, rfl, wd.heap.size, rfl, up hmsg (by decide)⟩
            exact up (KW.blk (kd.blk hb (by simp; exact ⟨fun e => by subst e; exact absurd rfl (hb.ne (d3k) (by decide)), fun e => by subst e; exact absurd rfl (hb.ne (d5k) (by decide))⟩)) (by simp)) (by decide)
          · rw [Nat.zero_add, splice_at _ _ _ (j * 5) lfl, flat_append]
            simp [flat, rcells]
          · have := (up (KW.blk Nd (by simp)) (by decide)).cell (fiOf q)
            rw [names_get _ (by omega)] at this
            exact this
        have HFN := unhalt hFIN
        clear hFIN
        go_upto_region 65 with fail
        go_region_held3 (fun w' => w'.cell? ⟨I.NM, fiOf q, none⟩ = some (.string (nameB (fiOf q)))) (first | assumption | exact SK _ ((Keep.refl [] wd).alloc _).drew | exact SK _ (((Keep.refl [] wd).alloc _).alloc _).drew) (first | (refine step_app_room_k _ (by rfl) (.tmp 273) (.tmp 287) 58 (by rfl) 64 i6 5 Yba.underlying58 hi6 h61 HR 0 j n (by rfl) ⟨wd.heap.size + 1, 0, none⟩ 1 1 (by rfl) _ _ (hR5 _ KW) rfl hnews (by simp [rcells, Value.oneCell']) (by omega) hfit ?_; intro w6 B6 g6; obtain ⟨hfin, hS6⟩ := HFN.out w6 B6 g6))
        clear HFN hnews KW SK hR5 S0 hS6 hmsg
        go_wp2
        exact ⟨⟨j + 1, by omega, by go_num, rfl, rfl, rfl, hfin.out⟩, by simp [intOf]; omega⟩
      · obtain rfl : j = n := by omega
        go_wp2
        go_meet
        case rel => exact ⟨rfl, rfl, rfl, hD⟩
  case rest =>
    obtain ⟨rfl, rfl, rfl, d1, ⟨rs1, d2, d3⟩, ⟨rs2, d4, d5⟩, hs, d6, d7, rs3, d8, d9⟩ := hcut
    have hnn := HNN.out
    subst hnn
    rename_i hK
    refine hK _ _ (HN.out ⟨HFb, HQ, HR, hs⟩ _ _ ⟨rfl, rfl, rfl, rfl, rfl, rfl, rfl, rfl, rfl, rfl, rfl⟩ ⟨rfl, rfl, rfl⟩ ⟨rfl, rfl⟩ ⟨rfl, rfl, rfl⟩ d1 ⟨d3.cast ?_, d5.cast ?_, d9.cast ?_, d6, d7, by have := HF.k0.size; show D.w0.heap.size ≤ HR; omega⟩)
    · have : rs1 = [] := List.eq_nil_of_length_eq_zero (by omega)
      rw [this, List.take_length, List.append_nil]
    · have : rs2 = [] := List.eq_nil_of_length_eq_zero (by omega)
      rw [this, List.take_length, List.append_nil]
    · have : rs3 = [] := List.eq_nil_of_length_eq_zero (by omega)
      rw [this, List.append_nil]
end Go.Proofs.Ybulkdfze
