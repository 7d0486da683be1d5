import Derived.Test.YbulkdfzeLawDG
import Derived.Deep.AppendLies
namespace Go.Proofs.Ybulkdfze
open Go Go.RowKit Go.Lib Go.Shelf
def LD.tr (D : LD) (i : Nat) : Bool := D.N i && D.pr i && D.old i
def LD.T (D : LD) : List Nat := pickN D.tr 4
theorem trans_eq (D : LD) (I : LI) (J : LB) (J2 : LC) (J3 : LH) (X : LX) : (mkFD D I J J2 J3 X).trans = namesOf D.T := by
  show (namesOf (pickN D.N 4)).filter (fun m => (decide (idxB m < 4) && D.pr (idxB m)) && D.old (idxB m)) = namesOf (pickN D.tr 4)
  unfold namesOf
  rw [List.filter_map]
  congr 1
  unfold pickN
  rw [List.filter_filter]
  apply List.filter_congr
  intro i hi
  have hi4 : i < 4 := by simpa using hi
  simp only [Function.comp, idxB_name i hi4, LD.tr]
  cases D.N i <;> simp [hi4]
def ints (l : List Nat) : List Value := l.map fun (i : Nat) => .int .i64 (i : Int)

/-- The transitional members as far as the first j. -/
def GI (D : LD) (w : World) (TB j : Nat) (v1 v2 : Value) (wr : World) : Prop :=
  Keep [] w wr ∧ Blk wr TB 22 (bl fun i => decide (i < j) && D.tr i) ∧ wr.ownsRow w.heap.size 3 1 v1 (pickN D.tr j).length (ints (pickN D.tr j)) ∧ wr.ownsRow w.heap.size 9 1 v2 (pickN D.tr j).length (strs (pickN D.tr j))
theorem GI.none {D : LD} {w : World} {TB j : Nat} {v1 v2 : Value} {wr : World} (h : GI D w TB j v1 v2 wr) (hf : D.tr j = false) : GI D w TB (j + 1) v1 v2 wr := by
  obtain ⟨h1, h2, h3, h4⟩ := h
  unfold GI
  rw [pickN_succ, hf]
  refine ⟨h1, h2.cast (bl_congr fun i _ => ?_), by simpa using h3, by simpa using h4⟩
  by_cases hij : i = j
  · subst hij; simp [hf]
  · have : (i < j + 1) = (i < j) := by simp; omega
    simp [this]
structure SG (TB : Nat) (tao : Option Addr) (tc : Nat) (D : LD) (a : Act) : Prop where
  s51 : a.tmps[51]? = some (.pointer (some ⟨TB, 0, none⟩))
  s52 : a.tmps[52]? = some (.slice tao D.T.length tc)
structure FG (D : LD) (TB : Nat) (tao : Option Addr) (w : World) : Prop where
  hTB : Blk w TB 22 (bl D.tr)
  hT : Rd w tao (ints D.T)

set_option maxRecDepth 1000000 in
set_option maxHeartbeats 8000000 in
theorem phaseG (D : LD) (H : D.Ok) (I : LI) (J : LB) (J2 : LC) (J3 : LH) (X : LX) (a : Act) (w : World) (HS : SL D I J J2 J3 X true a) (HZ : FZ D I J J2 J3 w)
    (tn5 : Option Addr) (tc5 CB : Nat) (hN : Blk w X.NB 86 [.string ⟨#[118, 50]⟩, .slice I.nao I.nn I.nc, .string ⟨#[76]⟩, .int .u64 1, .int .u64 1, .slice tn5 D.T.length tc5, .map (some CB)]) (hT5 : Rd w tn5 (strs D.T))
    (next : ∀ TB tao tc a' w', SL D I J J2 J3 X true a' → SG TB tao tc D a' → Keep [] w w' → FG D TB tao w' → Code.wp Yba.prog (C3 Yba.f3 33) (LQ D) a' w') : Code.wp Yba.prog (C3 Yba.f3 27) (LQ D) a w := by
  obtain ⟨u, hu, rfl⟩ := frame_of a HS.sa.hs HS.sa.hd
  have e5 := hu 5 _ HS.sa.s5
  have e8 := hu 8 _ HS.sa.s8
  have e10 := hu 10 _ HS.sa.s10
  have e13 := hu 13 _ HS.sa.s13
  have e14 := hu 14 _ HS.sa.s14
  have e15 := hu 15 _ HS.sa.s15
  have e16 := hu 16 _ HS.sa.s16
  have e17 := hu 17 _ HS.sa.s17
  have e19 := hu 19 _ HS.sa.s19
  have e20 := hu 20 _ HS.sb.s20
  have e21 := hu 21 _ HS.sb.s21
  have e22 := hu 22 _ HS.sb.s22
  have e28 := hu 28 _ HS.sc.s28
  have e29 := hu 29 _ HS.sc.s29
  have e35 := hu 35 _ HS.sd.s35
  have e36 := hu 36 _ HS.sd.s36
  have e37 := hu 37 _ HS.sd.s37
  have e42 := hu 42 _ HS.sx.s42
  have e43 := hu 43 _ HS.sx.s43
  have e45 := hu 45 _ HS.sx.s45
  have e46 := hu 46 _ HS.sx.s46
  have e47 := hu 47 _ HS.sx.s47
  have HN := unhalt next
  clear next
  clear hu HS
  conv => arg 2; whnf
  unfold frame
  simp only [e5, e8, e10, e13, e14, e15, e16, e17, e19, e20, e21, e22, e28, e29, e35, e36, e37, e42, e43, e45, e46, e47]
  have fa := HZ.fa
  obtain ⟨i9, hi9, hz90, hz91, hz92⟩ := info_parts info9
  obtain ⟨i3, hi3, hy⟩ := Option.map_eq_some_iff.1 info3
  obtain ⟨hy0, h31, h32⟩ : i3.zero.isSome = true ∧ i3.size = 1 ∧ i3.bytes = 8 := by simpa using hy
  obtain ⟨z3, hz3⟩ := Option.isSome_iff_exists.1 hy0
  have hz3s : z3.cells.size = 1 := by have := zero3; rw [hi3] at this; simpa [hz3] using this
  clear hy hy0
  have hG0 : GI D w w.heap.size 0 (.slice none 0 0) (.slice none 0 0) (w.alloc (.cells #[.bool false, .bool false, .bool false, .bool false] 22)) :=
    ⟨(Keep.refl [] w).alloc _, Blk.new w _ 22, World.ownsRow_nil .., World.ownsRow_nil ..⟩
  go_upto_block 16 with fail
  generalize w.alloc (.cells #[.bool false, .bool false, .bool false, .bool false] 22) = wA at hG0 ⊢
  obtain ⟨TB, hTB⟩ : ∃ x, x = w.heap.size := ⟨_, rfl⟩
  rw [← hTB] at hG0 ⊢
  have i1 : w.heap.size ≤ TB := by omega
  clear hTB
  go_cut [52, 53, 54] from 418 to 448 (fun v1 v2 _ wx => GI D w TB 4 v1 v2 wx)
  case first =>
    go_wp2_with fail
    go_loopw [52, 53, 54] (fun v1 v2 c wr => ∃ j : Nat, j ≤ 4 ∧ c = .int .i64 j ∧ GI D w TB j v1 v2 wr) (fun _ _ v _ => 4 - (intOf v).toNat)
    case atStart => exact ⟨0, by omega, rfl, hG0⟩
    case round =>
      obtain ⟨j, hj, rfl, hG⟩ := hrel
      clear hG0
      by_cases hj4 : j < 4
      · have hj1 : (j : Int) < 4 := by omega
        have hj0 : (0 : Int) ≤ (j : Int) := by omega
        have hj5 : (j : Int) < 5 := by omega
        obtain ⟨g1, g2, g3, g4⟩ := id hG
        have far := fa.keep g1
        obtain ⟨r0, r1, _, _⟩ := H.hrp j hj4
        have c0 := far.hRP.cell (j * 11)
        rw [r0] at c0
        have c1 := far.hRP.cell (j * 11 + 1)
        rw [r1] at c1
        have cN := far.hIN.cell j
        rw [bl_get _ j hj4] at cN
        have lRP := far.hRP.lt
        have lIN := far.hIN.lt
        have hz0 := @List.getElem?_cons_zero Field
        have hzs := @List.getElem?_cons_succ Field
        clear r0 r1
        cases h1 : D.N j with
        | false =>
          rw [h1] at cN
          have hfin := hG.none (show D.tr j = false by simp [LD.tr, h1])
          clear hG g1 g2 g3 g4 far
          go_wp2
          exact ⟨⟨j + 1, by omega, by go_num, hfin⟩, by simp [intOf]; omega⟩
        | true =>
          rw [h1] at cN
          cases h2 : D.pr j with
          | false =>
            rw [h2] at c0
            have hfin := hG.none (show D.tr j = false by simp [LD.tr, h2])
            clear hG g1 g2 g3 g4 far
            go_wp2
            exact ⟨⟨j + 1, by omega, by go_num, hfin⟩, by simp [intOf]; omega⟩
          | true =>
            rw [h2] at c0
            cases h3 : D.old j with
            | false =>
              rw [h3] at c1
              have hfin := hG.none (show D.tr j = false by simp [LD.tr, h3])
              clear hG g1 g2 g3 g4 far
              go_wp2
              exact ⟨⟨j + 1, by omega, by go_num, hfin⟩, by simp [intOf]; omega⟩
            | true =>
              rw [h3] at c1
              have htr : D.tr j = true := by simp [LD.tr, h1, h2, h3]
              have ct := g2.cell j
              rw [bl_get _ j hj4] at ct
              have ft := g2.free j
              have lt := g2.lt
              go_wp2_with (at_builtin; refine halt ?_)
              refine unhalt ?_
              clear hz0 hzs c0 c1 cN
              have k1 : Keep [TB] wr (wr.setCell ⟨TB, j, none⟩ (.bool true)) := (Keep.refl _ wr).setCell _ _ (by simp)
              have g2' : Blk (wr.setCell ⟨TB, j, none⟩ (.bool true)) TB 22 (bl fun i => decide (i < j + 1) && D.tr i) := (g2.set j (.bool true)).cast (by
                rw [bl_set _ j hj4]
                refine bl_congr fun i _ => ?_
                by_cases hij : i = j
                · subst hij; simp [htr]
                · have : (i < j + 1) = (i < j) := by simp; omega
                  simp [hij, this])
              have tne : ∀ {v : Value} {e : TypeId} {nn : Nat} {xs : List Value}, wr.ownsRow w.heap.size e 1 v nn xs → e ≠ 22 → ∀ g, v.ownBlock = some g → g ≠ TB := fun ho he g hg => by
                obtain ⟨c, fr, ht⟩ := (owns_lt ho g hg).2
                rintro rfl
                have := g2.symm.trans ht
                cases this
                exact he rfl
              have up1 : ∀ {v : Value} {e : TypeId} {nn : Nat} {xs : List Value}, wr.ownsRow w.heap.size e 1 v nn xs → e ≠ 22 → (wr.setCell ⟨TB, j, none⟩ (.bool true)).ownsRow w.heap.size e 1 v nn xs := fun ho he => ⟨ho.1, orR ho.2 fun ⟨g, cap, cur, a1, a2, a3, a4⟩ => ⟨g, cap, cur, a1, a2, (k1.block g (Array.getElem?_eq_some_iff.1 a3).1 (by simpa using tne ho he g (by rw [a1]; rfl))).trans a3, a4⟩⟩
              have g3' := up1 g3 (by decide)
              have g4' := up1 g4 (by decide)
              have K1 : Keep [] w (wr.setCell ⟨TB, j, none⟩ (.bool true)) := g1.trans k1 (fun x hx hlt => by simp at hx; omega)
              have hlen : (pickN D.tr j).length ≤ 4 := Nat.le_trans (pickN_len _ _) (by omega)
              have hszw : (wr.setCell ⟨TB, j, none⟩ (.bool true)).heap.size = wr.heap.size := by simp
              generalize wr.setCell ⟨TB, j, none⟩ (.bool true) = w1 at g2' g3' g4' K1 hszw ⊢
              clear g1 g2 g3 g4 hG k1 up1 tne ct ft lt far lRP lIN
              have hnb := Blk.new' w1 #[.int .i64 (j : Int)] 3 wr.heap.size hszw.symm
              clear hszw
              have o3 := g3'.alloc (.cells #[.int .i64 (j : Int)] 3)
              have o4 := g4'.alloc (.cells #[.int .i64 (j : Int)] 3)
              have t2 := g2'.alloc (.cells #[.int .i64 (j : Int)] 3)
              have K2 : Keep [] w (w1.alloc (.cells #[.int .i64 (j : Int)] 3)) := K1.alloc _
              generalize w1.alloc (.cells #[.int .i64 (j : Int)] 3) = w2 at hnb o3 o4 t2 K2 ⊢
              have ht1 := pickN_succ D.tr j
              rw [htr, if_pos rfl] at ht1
              have HT1 := unhalt ht1
              clear ht1
              refine wpList_append_own _ rfl (.tmp 439) (.tmp 441) 56 rfl w.heap.size 3 i3 z3 1 8 Yba.underlying56 hi3 hz3 h31 h32 hz3s (by decide) u52 _ _ rfl o3 ⟨wr.heap.size, 0, none⟩ 1 1 [.int .i64 (j : Int)] rfl rfl ?_ (by simp [Value.oneCell']) (by unfold maxLen; omega) (by omega) K2.size ?_
              · intro k u hk
                rw [Addr.add_lit, hnb.cell (0 + k), Nat.zero_add]; exact hk
              intro v3 w3 p3 q3 _
              have K3 : Keep [] w w3 := K2.grown q3 (fun x hx hlt => by have := (owns_lt o3 x hx).1; omega)
              have nt : ∀ {g e cs}, Blk w2 g e cs → e ≠ 3 → some g ≠ u52.ownBlock := fun hb he hg => by
                obtain ⟨c, fr, ht⟩ := (owns_lt o3 _ hg.symm).2
                have := hb.symm.trans ht
                cases this
                exact he rfl
              have t3 := t2.kept q3 (nt t2 (by decide))
              have o43 : w3.ownsRow w.heap.size 9 1 u53 (pickN D.tr j).length (strs (pickN D.tr j)) := by
                refine ⟨o4.1, orR o4.2 fun ⟨g, cap, cur, a1, a2, a3, a4⟩ => ⟨g, cap, cur, a1, a2, ?_, a4⟩⟩
                have hb' : Blk w2 g 9 cur.toList := by unfold Blk; simpa using a3
                simpa [Blk] using hb'.kept q3 (nt hb' (by decide))
              obtain ⟨gv, cv, hv3⟩ := ownsRow_succ p3
              subst hv3
              clear o3 o4 t2 K2 q3 nt hnb
              have far3 := fa.keep K3
              have cn := far3.hNM.cell j
              rw [names_get j (by omega)] at cn
              have ln := far3.hNM.lt
              go_wp2_with (at_builtin; refine halt ?_)
              refine unhalt ?_
              have hnb := Blk.new' w3 #[.string (nameB j)] 9 w3.heap.size rfl
              have o4 := o43.alloc (.cells #[.string (nameB j)] 9)
              have p4 := p3.alloc (.cells #[.string (nameB j)] 9)
              have t4 := t3.alloc (.cells #[.string (nameB j)] 9)
              have K4 : Keep [] w (w3.alloc (.cells #[.string (nameB j)] 9)) := K3.alloc _
              generalize w3.alloc (.cells #[.string (nameB j)] 9) = w4 at hnb o4 p4 t4 K4 ⊢
              refine wpList_append_own _ rfl (.tmp 443) (.tmp 447) 29 rfl w.heap.size 9 i9 (.string ⟨#[]⟩) 1 16 Yba.underlying29 hi9 hz90 hz91 hz92 rfl (by decide) u53 _ _ rfl o4 ⟨w3.heap.size, 0, none⟩ 1 1 [.string (nameB j)] rfl rfl ?_ (by simp [Value.oneCell']) (by unfold maxLen; omega) (by omega) K4.size ?_
              · intro k u hk
                rw [Addr.add_lit, hnb.cell (0 + k), Nat.zero_add]; exact hk
              intro v5 w5 p5 q5 _
              have nt : ∀ {g e cs}, Blk w4 g e cs → e ≠ 9 → some g ≠ u53.ownBlock := fun hb he hg => by
                obtain ⟨c, fr, ht⟩ := (owns_lt o4 _ hg.symm).2
                have := hb.symm.trans ht
                cases this
                exact he rfl
              have hfin : GI D w TB (j + 1) (.slice (some ⟨gv, 0, none⟩) ((pickN D.tr j).length + 1) cv) v5 w5 := by
                unfold GI
                rw [HT1.out]
                refine ⟨K4.grown q5 (fun x hx hlt => by have := (owns_lt o4 x hx).1; omega), t4.kept q5 (nt t4 (by decide)), ?_, ?_⟩
                · have e1 : ints (pickN D.tr j ++ [j]) = ints (pickN D.tr j) ++ [.int .i64 (j : Int)] := by simp [ints]
                  rw [e1, List.length_append]
                  refine ⟨p4.1, orR p4.2 fun ⟨g, cap, cur, a1, a2, a3, a4⟩ => ⟨g, cap, cur, a1, a2, ?_, a4⟩⟩
                  have hb' : Blk w4 g 3 cur.toList := by unfold Blk; simpa using a3
                  simpa [Blk] using hb'.kept q5 (nt hb' (by decide))
                · have e1 : strs (pickN D.tr j ++ [j]) = strs (pickN D.tr j) ++ [.string (nameB j)] := by simp [strs]
                  rw [e1, List.length_append]
                  exact p5
              have HFI := unhalt hfin
              clear hfin p5 q5 nt o4 p4 t4 K4 hnb cn ln far3 t3 o43 p3 K3
              go_wp2
              exact ⟨⟨j + 1, by omega, by go_num, HFI.out⟩, by simp [intOf]; omega⟩
      · obtain rfl : j = 4 := by omega
        go_wp2
        go_meet
        case rel => exact hG
  case rest =>
    obtain ⟨g1, g2, g3, g4⟩ := hcut
    clear hG0
    have e4 : (bl fun i => decide (i < 4) && D.tr i) = bl D.tr := bl_congr fun i hi => by simp [hi]
    rw [e4] at g2
    obtain ⟨ta, tc, rfl⟩ : ∃ oao oc, u52 = .slice oao D.T.length oc := by
      rcases g3.2 with ⟨h1, h2⟩ | ⟨g, cap, cur, h1, _⟩
      · exact ⟨none, 0, by rw [h1]; congr 1; exact h2.symm⟩
      · exact ⟨_, cap, h1⟩
    obtain ⟨na, nc, rfl⟩ : ∃ oao oc, u53 = .slice oao D.T.length oc := by
      rcases g4.2 with ⟨h1, h2⟩ | ⟨g, cap, cur, h1, _⟩
      · exact ⟨none, 0, by rw [h1]; congr 1; exact h2.symm⟩
      · exact ⟨_, cap, h1⟩
    have r3 := (owns_rd g3).1
    have r4 := (owns_rd g4).1
    have hNc := g1.blk hN (by simp)
    have c5 : wc.cell? ⟨X.NB, 5, none⟩ = some (.slice tn5 D.T.length tc5) := hNc.cell 5
    have lN := hNc.lt
    have hstr : ∀ l, (namesOf l).map Value.string = strs l := fun l => by simp [namesOf, strs, List.map_map, Function.comp_def]
    have HEQ := unhalt (equal_strs tn5 na D.T.length tc5 nc (namesOf D.T) wc (by have := pickN_len D.tr 4; show (pickN D.tr 4).length ≤ 1000; omega) (by rw [hstr]; exact g1.rd hT5 (by simp)) (by rw [hstr]; exact r4) (by simp [namesOf]))
    have FIN := unhalt (fun w' (k : Keep [] wc w') => (⟨g1.trans k (by simp), ⟨k.blk g2 (by simp), k.rd r3 (by simp)⟩⟩ : Keep [] w w' ∧ FG D TB ta w'))
    clear g1 g2 g3 g4 r3 r4 hNc hstr
    go_wp2_with (go_at_call 9; refine halt ?_)
    refine unhalt ?_
    refine HEQ.out.mono ?_
    rintro e w6 ⟨rfl, k6⟩
    have HF6 := unhalt (FIN.out w6 k6)
    clear HEQ FIN k6 c5 lN
    go_upto_if 455 with fail
    go_cut [] from 449 to 455 (fun wx => wx = w6)
    case first =>
      go_wp2
      go_meet
      case rel => rfl
    case rest =>
      obtain rfl := hcut
      rename_i hK
      exact hK _ _ (HN.out TB ta tc _ _ ⟨⟨rfl, rfl, rfl, rfl, rfl, rfl, rfl, rfl, rfl, rfl, rfl⟩, ⟨rfl, rfl, rfl⟩, ⟨rfl, rfl⟩, ⟨rfl, rfl, rfl⟩, ⟨rfl, rfl, rfl, rfl, rfl⟩⟩ ⟨rfl, rfl⟩ HF6.out.1 HF6.out.2)
end Go.Proofs.Ybulkdfze
