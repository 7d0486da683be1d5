import Derived.Test.YbulkdfzeLawD
import Derived.Deep.AppendLies
namespace Go.Proofs.Ybulkdfze
open Go Go.RowKit Go.Lib Go.Shelf

/-- The loop over the masks: one mask. -/
def HS (w : World) (B : Nat) (f : Nat → Bool) (j : Nat) (v : Value) (wr : World) : Prop :=
  Blk wr B 22 (bl fun i => decide (i < j) && f i) ∧ wr.ownsRow w.heap.size 9 1 v (pickN f j).length (strs (pickN f j))
/-- Both. -/
def AI (D : LD) (w : World) (j k : Nat) (v1 v2 : Value) (wr : World) : Prop :=
  Keep [] w wr ∧ Blk wr w.heap.size 28 namesL ∧ HS w (w.heap.size + 1) D.O j v1 wr ∧ HS w (w.heap.size + 1 + 1) D.N k v2 wr ∧ (∀ g, v1.ownBlock = some g → v2.ownBlock = some g → False)

theorem HS.none {w : World} {B : Nat} {f : Nat → Bool} {j : Nat} {v : Value} {wr : World} (h : HS w B f j v wr) (hf : f j = false) : HS w B f (j + 1) v wr := by
  obtain ⟨h1, h2⟩ := h
  unfold HS
  rw [pickN_succ, hf]
  refine ⟨h1.cast (bl_congr fun i _ => ?_), by simpa using h2⟩
  by_cases hij : i = j
  · subst hij; simp [hf]
  · have : (i < j + 1) = (i < j) := by simp; omega
    simp [this]
theorem HS.kept {w : World} {B : Nat} {f : Nat → Bool} {j : Nat} {v : Value} {wr w1 : World} (h : HS w B f j v wr) (hB : ∀ cs, Blk wr B 22 cs → Blk w1 B 22 cs) (hr : ∀ g, v.ownBlock = some g → w1.heap[g]? = wr.heap[g]?) : HS w B f j v w1 := by
  obtain ⟨h1, h2⟩ := h
  refine ⟨hB _ h1, h2.1, orR h2.2 fun ⟨g, cap, cur, a1, a2, a3, a4⟩ => ⟨g, cap, cur, a1, a2, (hr g (by rw [a1]; rfl)).trans a3, a4⟩⟩

/-- One mask's bit is set: its cell, and its name behind the row; w1: the store; w2: the new element; w3: the append. -/
theorem AI_step {w : World} {B B' : Nat} {f f' : Nat → Bool} {j k : Nat} {v v' : Value} {wr w3 : World} {g3 cap3 : Nat} (hB : w.heap.size ≤ B) (_hB' : w.heap.size ≤ B') (hBB : B ≠ B') (hBn : B ≠ w.heap.size)
    (k0 : Keep [] w wr) (hN : Blk wr w.heap.size 28 namesL) (h : HS w B f j v wr) (h' : HS w B' f' k v' wr) (hne : ∀ g, v.ownBlock = some g → v'.ownBlock = some g → False) (hf : f j = true) (hj : j < 4)
    (o3 : w3.ownsRow w.heap.size 9 1 (.slice (some ⟨g3, 0, none⟩) ((pickN f j).length + 1) cap3) ((pickN f j).length + 1) (strs (pickN f j) ++ [.string (nameB j)]))
    (hg3 : ((wr.setCell ⟨B, j, none⟩ (.bool true)).alloc (.cells #[.string (nameB j)] 9)).grownBy w3 v.ownBlock) (hl3 : v.ownBlock = some g3 ∨ g3 = wr.heap.size + 1) :
    Keep [] w w3 ∧ Blk w3 w.heap.size 28 namesL ∧ HS w B f (j + 1) (.slice (some ⟨g3, 0, none⟩) ((pickN f j).length + 1) cap3) w3 ∧ HS w B' f' k v' w3 ∧ (∀ g, g3 = g → v'.ownBlock = some g → False) := by
  obtain ⟨h1, h2⟩ := h
  obtain ⟨h1', h2'⟩ := h'
  have hsz := k0.size
  have kw : Keep [B] wr ((wr.setCell ⟨B, j, none⟩ (.bool true)).alloc (.cells #[.string (nameB j)] 9)) := ((Keep.refl [B] wr).setCell _ _ (by simp)).alloc _
  have hs2 : ((wr.setCell ⟨B, j, none⟩ (.bool true)).alloc (.cells #[.string (nameB j)] 9)).heap.size = wr.heap.size + 1 := by simp
  have hvt : ∀ g, v.ownBlock = some g → w.heap.size ≤ g ∧ ofType wr g 9 := fun g hg => owns_lt h2 g hg
  have hBv : ∀ {g e cs}, Blk wr g e cs → e ≠ 9 → some g ≠ v.ownBlock := fun hb he hg => by
    obtain ⟨c, fr, ht⟩ := (hvt _ hg.symm).2
    have := hb.symm.trans ht
    cases this
    exact he rfl
  have hgB : ∀ {v'' : Value} {nn : Nat} {xs : List Value}, wr.ownsRow w.heap.size 9 1 v'' nn xs → ∀ g, v''.ownBlock = some g → g ≠ B := fun ho g hg => by
    obtain ⟨c, fr, ht⟩ := (owns_lt ho g hg).2
    rintro rfl
    have := h1.symm.trans ht
    cases this
  refine ⟨?_, ?_, ⟨?_, ?_⟩, ?_, ?_⟩
  · exact (k0.trans kw (fun x hx hlt => by simp at hx; omega)).grown hg3 (fun x hx hlt => by have := (hvt x hx).1; omega)
  · exact (kw.blk hN (by simpa using fun e => hBn e.symm)).kept hg3 (hBv hN (by decide))
  · have hset : Blk ((wr.setCell ⟨B, j, none⟩ (.bool true)).alloc (.cells #[.string (nameB j)] 9)) B 22 (bl fun i => decide (i < j + 1) && f i) := ((h1.set j (.bool true)).alloc _).cast (by
      rw [bl_set _ j hj]
      refine bl_congr fun i _ => ?_
      by_cases hij : i = j
      · subst hij; simp [hf]
      · have : (i < j + 1) = (i < j) := by simp; omega
        simp [hij, this])
    exact hset.kept hg3 (hBv h1 (by decide))
  · rw [pickN_succ, hf, if_pos rfl]
    simp only [strs, List.map_append, List.map_cons, List.map_nil, List.length_append, List.length_singleton] at o3 ⊢
    exact o3
  · refine HS.kept ⟨h1', h2'⟩ (fun cs hb => (kw.blk hb (by simpa using fun e => hBB e.symm)).kept hg3 (hBv hb (by decide))) (fun g hg => ?_)
    have hlt : g < wr.heap.size := by
      obtain ⟨c, fr, ht⟩ := (owns_lt h2' g hg).2
      exact (Array.getElem?_eq_some_iff.1 ht).1
    have hgne := hgB h2' g hg
    rw [hg3.block g (by omega) (fun e => hne g e.symm hg), kw.block g hlt (by simpa using hgne)]
  · rintro g rfl hg
    rcases hl3 with h | h
    · exact hne g3 h hg
    · obtain ⟨c, fr, ht⟩ := (owns_lt h2' g3 hg).2
      have := (Array.getElem?_eq_some_iff.1 ht).1
      omega

set_option maxRecDepth 1000000 in
set_option maxHeartbeats 8000000 in
theorem phaseA (D : LD) (H : D.Ok) (a : Act) (w : World) (RP KN : Nat) (k0 : Keep [] D.w0 w) (hRP : Blk w RP 26 D.rp) (hKN : Blk w KN 23 [.int .u8 (D.kN 0), .int .u8 (D.kN 1), .int .u8 (D.kN 2), .int .u8 (D.kN 3)])
    (hs : a.tmps.size = 796) (hd : a.defers = []) (h0 : a.tmps[0]? = some (.int .u8 D.om)) (h1 : a.tmps[1]? = some (.int .u8 D.nm)) (h3 : a.tmps[3]? = some (.int .u8 D.self)) (h5 : a.tmps[5]? = some (.slice D.hao D.held.length D.hcap))
    (h8 : a.tmps[8]? = some (.pointer (some ⟨RP, 0, none⟩))) (h10 : a.tmps[10]? = some (.pointer (some ⟨KN, 0, none⟩)))
    (next : ∀ I a' w', SA D I a' → FA D I w' → Code.wp Yba.prog (C3 Yba.f3 7) (LQ D) a' w') : Code.wp Yba.prog (C3 Yba.f3 2) (LQ D) a w := by
  obtain ⟨u, hu, rfl⟩ := frame_of a hs hd
  have e0 := hu 0 _ h0
  have e1 := hu 1 _ h1
  have e3 := hu 3 _ h3
  have e5 := hu 5 _ h5
  have e8 := hu 8 _ h8
  have e10 := hu 10 _ h10
  have HN := unhalt next
  obtain ⟨hom0, hom1⟩ := H.hom
  obtain ⟨hnm0, hnm1⟩ := H.hnm
  obtain ⟨hsf0, hsf1⟩ := H.hself
  clear hu h0 h1 h3 h5 h8 h10 hs hd next
  obtain ⟨i0, hi, hz0, hz1, hz2⟩ := info_parts info9
  conv => arg 2; whnf
  unfold frame
  simp only [e0, e1, e3, e5, e8, e10]
  have hA0 : AI D w 0 0 (.slice none 0 0) (.slice none 0 0) (((w.alloc (.cells #[.string ⟨#[97]⟩, .string ⟨#[98]⟩, .string ⟨#[99]⟩, .string ⟨#[100]⟩, .string ⟨#[101]⟩] 28)).alloc (.cells #[.bool false, .bool false, .bool false, .bool false] 22)).alloc (.cells #[.bool false, .bool false, .bool false, .bool false] 22)) := by
    refine ⟨(((Keep.refl [] w).alloc _).alloc _).alloc _, ((Blk.new w _ 28).alloc _).alloc _, ⟨(Blk.new' _ _ _ _ (by simp)).alloc _, World.ownsRow_nil ..⟩, ⟨Blk.new' _ _ _ _ (by simp), World.ownsRow_nil ..⟩, by intro g h; cases h⟩
  go_upto_block 0 with fail
  generalize (((w.alloc (.cells #[.string ⟨#[97]⟩, .string ⟨#[98]⟩, .string ⟨#[99]⟩, .string ⟨#[100]⟩, .string ⟨#[101]⟩] 28)).alloc (.cells #[.bool false, .bool false, .bool false, .bool false] 22)).alloc (.cells #[.bool false, .bool false, .bool false, .bool false] 22)) = wA at hA0 ⊢
  have hNs : w.heap.size < wA.heap.size := hA0.2.1.lt
  go_cut [16, 17, 18] from 90 to 121 (fun v1 v2 _ wc => AI D w 4 4 v1 v2 wc)
  case first =>
    go_wp2_with fail
    go_loopw [16, 17, 18] (fun v1 v2 c wr => ∃ j : Nat, j ≤ 4 ∧ c = .int .i64 j ∧ AI D w j j v1 v2 wr) (fun _ _ v _ => 4 - (intOf v).toNat)
    case atStart => exact ⟨0, by omega, rfl, hA0⟩
    case round =>
      obtain ⟨j, hj, rfl, hA⟩ := hrel
      clear hA0 hNs
      by_cases hj4 : j < 4
      · have hj1 : (j : Int) < 4 := by omega
        have hj0 : (0 : Int) ≤ (j : Int) := by omega
        go_upto_if 99 with fail
        go_cut [16] from 94 to 107 (fun v1 wc => AI D w (j + 1) j v1 u17 wc)
        case first =>
          obtain ⟨A1, A2, A3, A4, A5⟩ := id hA
          cases hb : D.O j with
          | false =>
            have q : (bits BinOp.and IntKind.u8 (D.om / 2 ^ j) 1 == 1) = false := hb
            have hfin : AI D w (j + 1) j u16 u17 wr := ⟨A1, A2, A3.none hb, A4, A5⟩
            clear A1 A2 A3 A4 A5 hA
            go_wp2
            go_meet
            case rel => exact hfin
          | true =>
            have q : (bits BinOp.and IntKind.u8 (D.om / 2 ^ j) 1 == 1) = true := hb
            have c1 := A3.1.cell j
            rw [bl_get _ j hj4] at c1
            have f1 := A3.1.free j
            have c2 := A2.cell j
            rw [names_get j (by omega)] at c2
            have l1 := A3.1.lt
            have l2 := A2.lt
            go_wp2_with (at_builtin; refine halt ?_)
            refine unhalt ?_
            have hsz : w.heap.size ≤ wr.heap.size := A1.size
            have hnb := Blk.new' (wr.setCell ⟨w.heap.size + 1, j, none⟩ (.bool true)) #[.string (nameB j)] 9 wr.heap.size (by simp)
            have hs2 : ((wr.setCell ⟨w.heap.size + 1, j, none⟩ (.bool true)).alloc (.cells #[.string (nameB j)] 9)).heap.size = wr.heap.size + 1 := by simp
            have ho : ((wr.setCell ⟨w.heap.size + 1, j, none⟩ (.bool true)).alloc (.cells #[.string (nameB j)] 9)).ownsRow w.heap.size 9 1 u16 (pickN D.O j).length (strs (pickN D.O j)) := by
              refine World.ownsRow.alloc ?_ _
              exact ⟨A3.2.1, orR A3.2.2 fun ⟨g, cap, cur, a1, a2, a3, a4⟩ => ⟨g, cap, cur, a1, a2, (heap_setCell_other _ _ _ _ (by dsimp only; rintro rfl; have := A3.1.symm.trans a3; cases this)).trans a3, a4⟩⟩
            have hlen : (pickN D.O j).length ≤ 4 := Nat.le_trans (pickN_len _ _) (by omega)
            refine wpList_append_lies _ rfl (.tmp 102) (.tmp 106) 29 rfl w.heap.size 9 i0 (.string ⟨#[]⟩) 1 16 Yba.underlying29 hi hz0 hz1 hz2 rfl (by decide) u16 _ _ rfl ho ⟨wr.heap.size, 0, none⟩ 1 1 [.string (nameB j)] rfl rfl ?_ (by simp [Value.oneCell']) (by omega) (by unfold maxLen; omega) (by omega) (by omega) (wr.heap.size + 1) hs2 ?_
            · intro k u hk
              rw [Addr.add_lit, hnb.cell (0 + k), Nat.zero_add]; exact hk
            intro g3 cap3 w3 o3 hg3 hl3 _
            have hfin : AI D w (j + 1) j (.slice (some ⟨g3, 0, none⟩) ((pickN D.O j).length + 1) cap3) u17 w3 := by
              obtain ⟨x1, x2, x3, x4, x5⟩ := AI_step (by omega) (by omega) (by omega) (by omega) A1 A2 A3 A4 A5 hb hj4 o3 hg3 hl3
              exact ⟨x1, x2, x3, x4, fun g hg => x5 g (by cases hg; rfl)⟩
            have HF := unhalt hfin
            clear hfin o3 hg3 hl3 ho hnb hs2 A1 A2 A3 A4 A5 hA c1 f1 c2 l1 l2
            go_wp2
            go_meet
            case rel => exact HF.out
        case rest =>
          clear hA
          obtain ⟨A1, A2, A3, A4, A5⟩ := hcut
          cases hb : D.N j with
          | false =>
            have q : (bits BinOp.and IntKind.u8 (D.nm / 2 ^ j) 1 == 1) = false := hb
            have hfin : AI D w (j + 1) (j + 1) u16 u17 wc := ⟨A1, A2, A3, A4.none hb, A5⟩
            clear A1 A2 A3 A4 A5
            go_wp2
            exact ⟨⟨j + 1, by omega, by go_num, hfin⟩, by simp [intOf]; omega⟩
          | true =>
            have q : (bits BinOp.and IntKind.u8 (D.nm / 2 ^ j) 1 == 1) = true := hb
            have c1 := A4.1.cell j
            rw [bl_get _ j hj4] at c1
            have f1 := A4.1.free j
            have c2 := A2.cell j
            rw [names_get j (by omega)] at c2
            have l1 := A4.1.lt
            have l2 := A2.lt
            go_wp2_with (at_builtin; refine halt ?_)
            refine unhalt ?_
            have hsz : w.heap.size ≤ wc.heap.size := A1.size
            have hnb := Blk.new' (wc.setCell ⟨w.heap.size + 1 + 1, j, none⟩ (.bool true)) #[.string (nameB j)] 9 wc.heap.size (by simp)
            have hs2 : ((wc.setCell ⟨w.heap.size + 1 + 1, j, none⟩ (.bool true)).alloc (.cells #[.string (nameB j)] 9)).heap.size = wc.heap.size + 1 := by simp
            have ho : ((wc.setCell ⟨w.heap.size + 1 + 1, j, none⟩ (.bool true)).alloc (.cells #[.string (nameB j)] 9)).ownsRow w.heap.size 9 1 u17 (pickN D.N j).length (strs (pickN D.N j)) := by
              refine World.ownsRow.alloc ?_ _
              exact ⟨A4.2.1, orR A4.2.2 fun ⟨g, cap, cur, a1, a2, a3, a4⟩ => ⟨g, cap, cur, a1, a2, (heap_setCell_other _ _ _ _ (by dsimp only; rintro rfl; have := A4.1.symm.trans a3; cases this)).trans a3, a4⟩⟩
            have hlen : (pickN D.N j).length ≤ 4 := Nat.le_trans (pickN_len _ _) (by omega)
            refine wpList_append_lies _ rfl (.tmp 116) (.tmp 120) 29 rfl w.heap.size 9 i0 (.string ⟨#[]⟩) 1 16 Yba.underlying29 hi hz0 hz1 hz2 rfl (by decide) u17 _ _ rfl ho ⟨wc.heap.size, 0, none⟩ 1 1 [.string (nameB j)] rfl rfl ?_ (by simp [Value.oneCell']) (by omega) (by unfold maxLen; omega) (by omega) (by omega) (wc.heap.size + 1) hs2 ?_
            · intro k u hk
              rw [Addr.add_lit, hnb.cell (0 + k), Nat.zero_add]; exact hk
            intro g3 cap3 w3 o3 hg3 hl3 _
            have hfin : AI D w (j + 1) (j + 1) u16 (.slice (some ⟨g3, 0, none⟩) ((pickN D.N j).length + 1) cap3) w3 := by
              obtain ⟨x1, x2, x3, x4, x5⟩ := AI_step (by omega) (by omega) (by omega) (by omega) A1 A2 A4 A3 (fun g h1 h2 => A5 g h2 h1) hb hj4 o3 hg3 hl3
              exact ⟨x1, x2, x4, x3, fun g h1 h2 => x5 g (by cases h2; rfl) h1⟩
            have HF := unhalt hfin
            clear hfin o3 hg3 hl3 ho hnb hs2 A1 A2 A3 A4 A5 c1 f1 c2 l1 l2
            go_wp2
            exact ⟨⟨j + 1, by omega, by go_num, HF.out⟩, by simp [intOf]; omega⟩
      · obtain rfl : j = 4 := by omega
        go_wp2
        go_meet
        case rel => exact hA
  case rest =>
    obtain ⟨A1, A2, A3, A4, A5⟩ := hcut
    have hsm : (D.self % 5).toNat < 5 := by omega
    have c0 := A2.cell (D.self % 5).toNat
    rw [names_get _ hsm] at c0
    have lN := A2.lt
    go_upto_region 15 with fail
    go_cut [19] from 122 to 126 (fun s wx => s = .string (nameB (D.self % 5).toNat) ∧ wx = wc)
    case first =>
      go_wp2
      go_meet
      case rel => exact ⟨rfl, rfl⟩
    case rest =>
      obtain ⟨rfl, rfl⟩ := hcut
      rename_i hK
      obtain ⟨oao, oc, rfl⟩ : ∃ oao oc, u16 = .slice oao (pickN D.O 4).length oc := by
        rcases A3.2.2 with ⟨h1, h2⟩ | ⟨g, cap, cur, h1, _⟩
        · exact ⟨none, 0, by rw [h1, h2]⟩
        · exact ⟨_, cap, h1⟩
      obtain ⟨nao, nc, rfl⟩ : ∃ oao oc, u17 = .slice oao (pickN D.N 4).length oc := by
        rcases A4.2.2 with ⟨h1, h2⟩ | ⟨g, cap, cur, h1, _⟩
        · exact ⟨none, 0, by rw [h1, h2]⟩
        · exact ⟨_, cap, h1⟩
      refine hK _ _ (HN.out ⟨RP, KN, w.heap.size, w.heap.size + 1, w.heap.size + 1 + 1, (pickN D.O 4).length, oc, (pickN D.N 4).length, nc, oao, nao⟩ _ _ ⟨rfl, rfl, rfl, rfl, rfl, rfl, rfl, rfl, rfl, rfl, rfl⟩ ?_)
      have hb := k0.size
      have e4 : ∀ f : Nat → Bool, (bl fun i => decide (i < 4) && f i) = bl f := fun f => bl_congr fun i hi => by simp [hi]
      exact ⟨k0.trans A1 (by simp), A1.blk hRP (by simp), A1.blk hKN (by simp), A2, A3.1.cast (e4 _), A4.1.cast (e4 _), owns_mono A3.2 hb, owns_mono A4.2 hb⟩
end Go.Proofs.Ybulkdfze
