import Derived.Test.YbulkdfzeDoorPart1
import Derived.Test.YbulkdfzeDoorRange
import Derived.Test.YbulkdfzeDoorRound
import Derived.LaidEql
namespace Go.Proofs.YbulkdfzeDoor
open Go Go.RowKit
attribute [local go_sem] Oper.semAt_some

theorem fits_sum (L : List Nat) : ∀ t, (fits t L = 0 ∨ t + (L.take (fits t L)).sum ≤ 262144) ∧ ∀ x, L[fits t L]? = some x → 262144 < t + (L.take (fits t L)).sum + x := by
  induction L with
  | nil => intro t; simp [fits]
  | cons d L ih =>
    intro t
    unfold fits
    split
    · obtain ⟨h1, h2⟩ := ih (t + d)
      refine ⟨.inr ?_, fun x hx => ?_⟩
      · rcases h1 with h | h
        · rw [h]; simp; omega
        · simp [List.take_succ_cons]; omega
      · have := h2 x (by simpa using hx)
        simp [List.take_succ_cons]; omega
    · refine ⟨.inl rfl, fun x hx => ?_⟩
      simp at hx ⊢
      omega

/-- What the body of the loop asks of a shipment. -/
theorem ship_laws {ds : List Nat} {p d k : Nat} (hd : ds[p]? = some d) (hk : k = 1 + fits d (ds.drop (p + 1))) :
    (1 < k → ((ds.drop p).take k).sum ≤ 262144) ∧ ∀ x, ds[p + k]? = some x → 262144 < ((ds.drop p).take k).sum + x := by
  obtain ⟨hlt, he⟩ := List.getElem?_eq_some_iff.1 hd
  obtain ⟨h1, h2⟩ := fits_sum (ds.drop (p + 1)) d
  have e : ((ds.drop p).take k).sum = d + ((ds.drop (p + 1)).take (fits d (ds.drop (p + 1)))).sum := by
    rw [List.drop_eq_getElem_cons hlt, he, hk, Nat.add_comm 1, List.take_succ_cons, List.sum_cons]
  rw [e]
  refine ⟨fun h => ?_, fun x hx => h2 x ?_⟩
  · rcases h1 with h1 | h1 <;> omega
  · rw [List.getElem?_drop, ← hx]; congr 1; omega

theorem sum_step {ds : List Nat} {p j x : Nat} (h : ds[p + j]? = some x) : ((ds.drop p).take (j + 1)).sum = ((ds.drop p).take j).sum + x := by
  rw [List.take_add_one, List.getElem?_drop, h]; simp

theorem info35' : (Ybad.prog.info? 35).isSome = true := by kernel_rfl
theorem equalIn_same (d : Nat) (a : Addr) (w : World) : (Op.equalIn (d + 1) 36 (.pointer (some a)) (.pointer (some a))).run Ybad.prog w = .ok true w := by
  obtain ⟨j, hj⟩ := Option.isSome_iff_exists.1 info35'
  simp [Op.equalIn, run_underlying Ybad.underlying36, typeInfo, sizeOf, run_sameAddr_same, hj]
theorem neq_same (a b : Addr) (w : World) (h : a = b) : (binOp .neq 36 (.pointer (some a)) (.pointer (some b))).run Ybad.prog w = .ok (.bool false) w := by
  subst h
  simp only [binOp]
  simp [Op.equal, Op.maxDepth, equalIn_same 9999 a w]

/-- What a round leaves. -/
theorem round_end {Pb Eb l D : Nat} {r rb : Loop} {w3 W w4 w5 : World} {v : Value} (x : Value) (h4 : Keep [Pb, Eb, l] w3 W) (k4 : Keep [l] W w4) (k5 : Keep [] w4 w5) (hP : Blk w5 Pb 3 [v])
    (hl4 : w4.heap[l]? = some (.loop rb)) (hD4 : w4.heap[D]? = some (.deferred (some []))) (n1 : Pb < l) (n2 : D < l) (n3 : Pb < D) :
    (w5.setCell ⟨Pb, 0, none⟩ x).heap[l]? = some (.loop rb) ∧
      (Blk ((w5.setCell ⟨Pb, 0, none⟩ x).putObj l (.loop r)) Pb 3 [x] ∧ ((w5.setCell ⟨Pb, 0, none⟩ x).putObj l (.loop r)).heap[l]? = some (.loop r) ∧
        ((w5.setCell ⟨Pb, 0, none⟩ x).putObj l (.loop r)).heap[D]? = some (.deferred (some [])) ∧ Keep [Pb, Eb, l] w3 ((w5.setCell ⟨Pb, 0, none⟩ x).putObj l (.loop r))) ∧
      Keep [Pb, l] W ((w5.setCell ⟨Pb, 0, none⟩ x).putObj l (.loop r)) := by
  have hl5 : w5.heap[l]? = some (.loop rb) := (k5.block l (Array.getElem?_eq_some_iff.1 hl4).1 (by simp)).trans hl4
  have hD5 : w5.heap[D]? = some (.deferred (some [])) := (k5.block D (Array.getElem?_eq_some_iff.1 hD4).1 (by simp)).trans hD4
  have hl6 : (w5.setCell ⟨Pb, 0, none⟩ x).heap[l]? = some (.loop rb) := (heap_setCell_other w5 ⟨Pb, 0, none⟩ l x (by dsimp only; omega)).trans hl5
  have hD6 : (w5.setCell ⟨Pb, 0, none⟩ x).heap[D]? = some (.deferred (some [])) := (heap_setCell_other w5 ⟨Pb, 0, none⟩ D x (by dsimp only; omega)).trans hD5
  have hP6 : Blk (w5.setCell ⟨Pb, 0, none⟩ x) Pb 3 [x] := by simpa using hP.set 0 x
  have kk : Keep [Pb, l] W ((w5.setCell ⟨Pb, 0, none⟩ x).putObj l (.loop r)) := ((((k4.mono (by simp)).trans k5 (by simp)).setCell _ _ (by simp)).putObj _ _ (by simp))
  exact ⟨hl6, ⟨hP6.putObj _ _ (by omega), World.putObj_heap_same (Array.getElem?_eq_some_iff.1 hl6).1, (World.putObj_heap_other (by omega)).trans hD6, h4.trans kk (by simp)⟩, kk⟩

theorem part_big (vs : ByteArray) (ao : Option Addr) (n c : Nat) (w : World) (hn : 512 < n) :
    Calls Ybad.prog 3 #[.string vs, .slice ao n c] w (fun e w' => e = .returned (.bool true) ∧ Keep [] w w') := by
  refine (callsIn_wide (n := 3)).1 ?_
  have HB := unhalt (fun w => (callsIn_wide (n := 2)).2 (build_big ao n c w hn))
  refine callsIn_of_wp_marks Ybad.func3 rfl trivial ?_ rfl
  simp only [Ybad.ntmps3, List.size_toArray, List.length_cons, List.length_nil, Nat.reduceAdd, Nat.reduceSub, Array.replicate_succ, Array.replicate_zero, List.push_toArray, List.append_toArray, List.nil_append, List.cons_append]
  gi_wp2
  refine ⟨trivial, (HB.out _).mono ?_⟩
  rintro e w1 ⟨rfl, rfl⟩
  gi_wp2
  refine ⟨.bool true, ?_, rfl, ?_⟩
  · simp [results, Ybad.results3, go_sem]
  · exact (((Keep.refl [] w).alloc _).alloc _).alloc _

set_option maxHeartbeats 1000000 in
theorem part_small (vs : ByteArray) (ao : Option Addr) (n c : Nat) (zs : List Int) (w : World) (hn : n ≤ 512) (lz : zs.length = n) (hr : Rd w ao (zs.map (Value.int .u8))) (hz : ∀ z ∈ zs, 0 ≤ z ∧ z < 256)
    (hv : w.cell? ⟨0, 0, none⟩ = some (.int .i64 262144)) :
    Calls Ybad.prog 3 #[.string vs, .slice ao n c] w (fun e w' => e = .returned (.bool true) ∧ Keep [] w w') := by
  refine (callsIn_wide (n := 3)).1 ?_
  refine callsIn_of_wp_marks Ybad.func3 rfl trivial ?_ rfl
  simp only [Ybad.ntmps3, List.size_toArray, List.length_cons, List.length_nil, Nat.reduceAdd, Nat.reduceSub, Array.replicate_succ, Array.replicate_zero, List.push_toArray, List.append_toArray, List.nil_append, List.cons_append]
  gi_wp2
  have b0 := block_lt_of_cell hv
  dsimp only at b0
  have k0 : Keep [] w ((w.alloc (.cells #[.string vs] 9)).alloc (.cells #[.bool false] 4)) := ((Keep.refl [] w).alloc _).alloc _
  have hVw : Blk ((w.alloc (.cells #[.string vs] 9)).alloc (.cells #[.bool false] 4)) w.heap.size 9 [.string vs] := (Blk.new w _ 9).alloc _
  have hRw : Blk ((w.alloc (.cells #[.string vs] 9)).alloc (.cells #[.bool false] 4)) (w.heap.size + 1) 4 [.bool false] := Blk.new' (w.alloc _) _ 4 _ (by simp)
  generalize ((w.alloc (.cells #[.string vs] 9)).alloc (.cells #[.bool false] 4)) = w0 at k0 hVw hRw ⊢
  obtain ⟨Vb, hVb⟩ : ∃ x, x = w.heap.size := ⟨_, rfl⟩
  obtain ⟨Rb, hRb⟩ : ∃ x, x = w.heap.size + 1 := ⟨_, rfl⟩
  rw [← hRb] at hRw ⊢
  rw [← hVb] at hVw ⊢
  have o1 : w.heap.size ≤ Vb := by omega
  have o2 : Vb < Rb := by omega
  clear hVb hRb
  have o3 := hRw.lt
  have HB := (callsIn_wide (n := 2)).2 (build_small ao n c zs w0 hn lz (k0.rd hr (by simp)) hz (k0.cell hv (by simp)))
  refine ⟨trivial, HB.mono ?_⟩
  rintro e w1 ⟨g, hg, hg1, rfl, hE, k1⟩
  clear HB
  have hV1 := k1.blk hVw (by simp)
  have hR1 := k1.blk hRw (by simp)
  have k01 := k0.trans k1 (by simp)
  clear k0 k1 hVw hRw
  have cV1 := hV1.cell 0
  simp only [List.getElem?_cons_zero] at cV1
  have lV1 := hV1.lt
  have HS := unhalt (fun w => (callsIn_wide (n := 2)).2 (ships_any vs (some ⟨g, 0, none⟩) n n w))
  gi_wp2
  refine ⟨trivial, (HS.out _).mono ?_⟩
  clear HS
  rintro e w2 ⟨rfl, e2⟩
  have z1 : ((w1.alloc (.cells #[.slice (some ⟨g, 0, none⟩) n n] 23)).alloc (.cells #[.int .i64 0] 3)).heap.size = w1.heap.size + 2 := by simp
  rw [z1]
  have hB2 : Blk w2 w1.heap.size 23 [.slice (some ⟨g, 0, none⟩) n n] := by rw [e2]; exact (((Blk.new w1 _ 23).alloc _).alloc _).alloc _
  have hP2 : Blk w2 (w1.heap.size + 1) 3 [.int .i64 0] := by rw [e2]; exact ((Blk.new' (w1.alloc _) _ 3 _ (by simp)).alloc _).alloc _
  have hW2 : Blk w2 (w1.heap.size + 2) 9 [.string vs] := by rw [e2]; exact (Blk.new' ((w1.alloc _).alloc _) _ 9 _ (by simp)).alloc _
  have hE2 : Blk w2 (w1.heap.size + 3) 23 [.slice (some ⟨g, 0, none⟩) n n] := by rw [e2]; exact Blk.new' (((w1.alloc _).alloc _).alloc _) _ 23 _ (by simp)
  have k12 : Keep [] w1 w2 := by rw [e2]; exact ((((Keep.refl [] w1).alloc _).alloc _).alloc _).alloc _
  clear e2 z1
  have hV2 := k12.blk hV1 (by simp)
  have hR2 := k12.blk hR1 (by simp)
  have hEnt := hE.keep k12 (by simp)
  have k02 := k01.trans k12 (by simp)
  obtain ⟨Bb, hBb⟩ : ∃ x, x = w1.heap.size := ⟨_, rfl⟩
  obtain ⟨Pb, hPb⟩ : ∃ x, x = w1.heap.size + 1 := ⟨_, rfl⟩
  obtain ⟨Wb, hWb⟩ : ∃ x, x = w1.heap.size + 2 := ⟨_, rfl⟩
  obtain ⟨Eb, hEb⟩ : ∃ x, x = w1.heap.size + 3 := ⟨_, rfl⟩
  have hEb' : w1.heap.size + 2 + 1 = Eb := by omega
  rw [hEb']
  rw [← hPb] at hP2 ⊢
  rw [← hWb] at hW2 ⊢
  rw [← hEb] at hE2
  rw [← hBb] at hB2 ⊢
  have o4 : g < Bb := by omega
  have o5 : Bb < Pb := by omega
  have o6 : Pb < Wb := by omega
  have o7 : Wb < Eb := by omega
  have o8 : Eb < w2.heap.size := hE2.lt
  clear hBb hPb hWb hEb hEb' hV1 hR1 hE k01 k12 cV1 lV1 hg1
  gi_wp2
  refine range_mine (gf := 9) (lb := #[.pointer (some ⟨Eb, 0, none⟩), .pointer (some ⟨Wb, 0, none⟩)]) rfl (enters_of Ybad.func9 (by kernel_rfl) rfl)
    (fun W' => Blk W' Pb 3 [.int .i64 n] ∧ W'.heap[w2.heap.size]? = some (.deferred (some [])) ∧ Keep [Pb, Eb] w2 W') ?rounds ?after
  case rounds =>
    intro r hs hp ht hps ha hb
    obtain ⟨D, hD⟩ : ∃ x, x = w2.heap.size := ⟨_, rfl⟩
    obtain ⟨l, hl⟩ : ∃ x, x = w2.heap.size + 1 := ⟨_, rfl⟩
    have hL3 : ((w2.alloc (.deferred (some []))).alloc (.loop r)).heap[l]? = some (.loop r) := by
      have := World.alloc_heap_new (w2.alloc (.deferred (some []))) (.loop r)
      rw [World.size_alloc] at this
      rw [hl]; exact this
    have hD3 : ((w2.alloc (.deferred (some []))).alloc (.loop r)).heap[D]? = some (.deferred (some [])) := by
      rw [hD]; exact (Below.heap_alloc _ _ _ (by simp)).trans (World.alloc_heap_new w2 _)
    have k23 : Keep [] w2 ((w2.alloc (.deferred (some []))).alloc (.loop r)) := ((Keep.refl [] w2).alloc _).alloc _
    rw [← hl, ← hD]
    have o9 : Eb < D := by omega
    have o10 : D < l := by omega
    clear hl
    generalize ((w2.alloc (.deferred (some []))).alloc (.loop r)) = w3 at hL3 hD3 k23 ⊢
    have hV3 := k23.blk hV2 (by simp)
    have hB3 := k23.blk hB2 (by simp)
    have hP3 := k23.blk hP2 (by simp)
    have hW3 := k23.blk hW2 (by simp)
    have hE3 := k23.blk hE2 (by simp)
    have cW3 := hW3.cell 0
    simp only [List.getElem?_cons_zero] at cW3
    have k03 := k02.trans k23 (by simp)
    have hv3 := k03.cell hv (by simp)
    have hEnt3 := hEnt.keep k23 (by simp)
    have hdz : ∀ d ∈ zs.map szOf, d ≤ 458759 := by
      intro d hd; obtain ⟨z, _, rfl⟩ := List.mem_map.1 hd; exact szOf_le z
    have ldz : (zs.map szOf).length = n := by simpa using lz
    generalize zs.map szOf = ds at hEnt3 hdz ldz
    have hD' : D ≤ w2.heap.size := by omega
    have hD'' : w2.heap.size ≤ D := by omega
    clear hD
    refine (iter_part l (3 - 1) Eb Wb g w0.heap.size n vs ds w3 [Pb, l] (fun p W => Blk W Pb 3 [.int .i64 (p : Nat)] ∧ W.heap[l]? = some (.loop r) ∧ W.heap[D]? = some (.deferred (some [])) ∧ Keep [Pb, Eb, l] w3 W) hn ldz hdz hEnt3 hv3 hE3 cW3 (by simp; omega) (by simp; omega) (by simp; omega) (by simp; omega) ?hJ ?hY ⟨hP3, hL3, hD3, Keep.refl _ _⟩).mono ?fin
    case hJ =>
      rintro p W W' ⟨h1, h2, h3, h4⟩ hk
      exact ⟨hk.blk h1 (by simp; omega), (hk.block l (Array.getElem?_eq_some_iff.1 h2).1 (by simp; omega)).trans h2, (hk.block D (Array.getElem?_eq_some_iff.1 h3).1 (by simp; omega)).trans h3, h4.trans hk (by simp)⟩
    case fin =>
      rintro e W' ⟨rfl, h1, h2, h3, h4⟩
      refine ⟨⟨_, rfl⟩, h2, h1, h3, ?_⟩
      exact (k23.mono (by simp)).trans h4 (by simp; omega)
    case hY =>
      rintro p k W ⟨h1, h2, h3, h4⟩ kW hk1 hk2 HG
      refine yield_mine (R := fun W' => (Blk W' Pb 3 [.int .i64 (p + k : Nat)] ∧ W'.heap[l]? = some (.loop r) ∧ W'.heap[D]? = some (.deferred (some [])) ∧ Keep [Pb, Eb, l] w3 W') ∧ Keep [Pb, l] W W') h2 hs hp ha hb hps ht rfl ?_
      clear ha hb hps ht
      intro rb hrb
      gi_wp2
      refine ⟨(Below.heap_alloc _ _ _ (Array.getElem?_eq_some_iff.1 h2).1).trans h2, ?_⟩
      have hS4 : Blk ((W.alloc (.cells #[.string vs, .slice (some ⟨g, p * 4, none⟩) k k] 30)).putObj l (.loop rb)) W.heap.size 30 [.string vs, .slice (some ⟨g, p * 4, none⟩) k k] := (Blk.new W _ 30).putObj _ _ (by have := (Array.getElem?_eq_some_iff.1 h2).1; omega)
      have k4 : Keep [l] W ((W.alloc (.cells #[.string vs, .slice (some ⟨g, p * 4, none⟩) k k] 30)).putObj l (.loop rb)) := ((Keep.refl [l] W).alloc _).putObj _ _ (by simp)
      have hL4 : ((W.alloc (.cells #[.string vs, .slice (some ⟨g, p * 4, none⟩) k k] 30)).putObj l (.loop rb)).heap[l]? = some (.loop rb) := World.putObj_heap_same (by have := (Array.getElem?_eq_some_iff.1 h2).1; simp; omega)
      generalize ((W.alloc (.cells #[.string vs, .slice (some ⟨g, p * 4, none⟩) k k] 30)).putObj l (.loop rb)) = w4 at hS4 k4 hL4 ⊢
      have lW : l < W.heap.size := (Array.getElem?_eq_some_iff.1 h2).1
      have hP4 := k4.blk h1 (by simp; omega)
      have kW4 : Keep [Pb, Eb, l] w3 w4 := h4.trans k4 (by simp)
      have hV4 := kW4.blk hV3 (by simp; omega)
      have hB4 := kW4.blk hB3 (by simp; omega)
      have hv4 := kW4.cell hv3 (by simp; omega)
      have hEnt4 := hEnt3.keep kW4 (by simp; omega)
      have hDW : w4.heap[D]? = some (.deferred (some [])) := (k4.block D (Array.getElem?_eq_some_iff.1 h3).1 (by simp; omega)).trans h3
      obtain ⟨Sb, hSb⟩ : ∃ x, x = W.heap.size := ⟨_, rfl⟩
      rw [← hSb] at hS4 ⊢
      have o11 : l < Sb := by omega
      have lS : W.heap.size ≤ Sb := by omega
      clear hSb lW
      obtain ⟨d, hdp, hkd⟩ := HG.out
      obtain ⟨sl1, sl2⟩ := ship_laws hdp hkd
      have HS1 := unhalt sl1
      have HS2 := unhalt sl2
      clear hkd sl1 sl2
      have cS0 := hS4.cell 0
      have cS1 := hS4.cell 1
      have cP := hP4.cell 0
      have fP := hP4.free 0
      have cV := hV4.cell 0
      have cB := hB4.cell 0
      simp only [List.getElem?_cons_zero, List.getElem?_cons_succ] at cS0 cS1 cP cV cB
      have q1 : ((k : Int) == 0) = false := by simp; omega
      have q2 : decide ((n : Int) < (p : Int) + (k : Int)) = false := decide_eq_false (by omega)
      gi_wp2
      gi_loopw [10, 11] (fun u v wq => ∃ j : Nat, j ≤ k ∧ u = .int .i64 ((((ds.drop p).take j).sum : Nat) : Int) ∧ ((ds.drop p).take j).sum ≤ j * 458759 ∧ v = .int .i64 j ∧ Keep [] w4 wq) (fun _ v _ => k - (intOf v).toNat)
      case atStart => exact ⟨0, Nat.zero_le _, by simp, by simp, rfl, Keep.refl _ _⟩
      case round =>
        obtain ⟨j, hj, rfl, hsum, rfl, kq⟩ := hrel
        have cS1' := kq.cell cS1 (by simp)
        have cP' := kq.cell cP (by simp)
        have cB' := kq.cell cB (by simp)
        by_cases hjk : j < k
        · obtain ⟨x, hx⟩ : ∃ x, ds[p + j]? = some x := ⟨ds[p + j]'(by omega), List.getElem?_eq_getElem (by omega)⟩
          have hxl := hdz x (List.mem_of_getElem? hx)
          obtain ⟨cx1, cx2⟩ := hEnt4 (p + j) x hx
          replace cx1 := kq.cell cx1 (by simp)
          replace cx2 := kq.cell cx2 (by simp)
          rw [Nat.add_mul] at cx1 cx2
          have hst := sum_step hx
          have HS := unhalt hst
          clear hst
          generalize ((ds.drop p).take j).sum = t at HS hsum ⊢
          have hnq : ∀ w, (binOp .neq 36 (.pointer (some ⟨g, p * 4 + j * 4, none⟩)) (.pointer (some ⟨g, (p + j) * 4, none⟩))).run Ybad.prog w = .ok (.bool false) w := fun w => neq_same _ _ w (by rw [Nat.add_mul])
          gi_wp2
          refine region_quiet_round (by kernel_rfl) (by kernel_rfl) (by kernel_rfl) ?_
          repeat (gi_big_quiet_step (fail))
          refine wpQuietIn_nil ?_
          intro _ hw'
          obtain ⟨nq, hw'⟩ := hw'
          subst hw'
          have kq2 := kq.drewN nq
          have dS1 : (wr.drewN nq).cell? ⟨Sb, 1, none⟩ = some (.slice (some ⟨g, p * 4, none⟩) k k) := cS1'
          have dx2 : (wr.drewN nq).cell? ⟨g, p * 4 + j * 4 + 3, none⟩ = some (.slice (some ⟨w0.heap.size, 0, none⟩) x x) := cx2
          gi_wp2
          refine ⟨⟨j + 1, by omega, by rw [HS.out]; push_cast; rfl, by rw [HS.out]; omega, by simp, kq2⟩, by simp [intOf]; omega⟩
        · have hjk' : j = k := by omega
          have HK := unhalt hjk'
          have hv5 := kq.cell hv4 (by simp)
          have hP5 := kq.blk hP4 (by simp)
          have fP5 := hP5.free 0
          by_cases hpk : p + k < n
          · obtain ⟨x, hx⟩ : ∃ x, ds[p + k]? = some x := ⟨ds[p + k]'(by omega), List.getElem?_eq_getElem (by omega)⟩
            have hxl := hdz x (List.mem_of_getElem? hx)
            have cx2 := kq.cell (hEnt4 (p + k) x hx).2 (by simp)
            have s2 := HS2.out x hx
            have s1 := HS1.out
            rw [hjk'] at hsum
            have e1 : ((ds.drop p).take j).sum = ((ds.drop p).take k).sum := by rw [hjk']
            rw [e1]
            generalize ((ds.drop p).take k).sum = t at s1 s2 hsum ⊢
            have q3 : decide ((p : Int) + (k : Int) < (n : Int)) = true := decide_eq_true (by omega)
            have q4 : decide ((t : Int) + (x : Int) ≤ 262144) = false := decide_eq_false (by omega)
            have q5 : 1 < (k : Int) → (t : Int) ≤ 262144 := fun h => by have := s1 (by omega); omega
            clear s1 e1 hjk'
            gi_wp2
            all_goals (
              refine region_quiet_round (by kernel_rfl) (by kernel_rfl) (by kernel_rfl) ?_
              repeat (gi_big_quiet_step (fail))
              refine wpQuietIn_nil ?_
              intro _ hw'
              obtain ⟨nq, hw'⟩ := hw'
              subst hw'
              gi_wp2
              exact round_end _ h4 k4 (kq.drewN nq) hP5 hL4 hDW (by omega) (by omega) (by omega))
          · have s1 := HS1.out
            rw [hjk'] at hsum
            have e1 : ((ds.drop p).take j).sum = ((ds.drop p).take k).sum := by rw [hjk']
            rw [e1]
            generalize ((ds.drop p).take k).sum = t at s1 hsum ⊢
            have q3 : decide ((p : Int) + (k : Int) < (n : Int)) = false := decide_eq_false (by omega)
            have q5 : 1 < (k : Int) → (t : Int) ≤ 262144 := fun h => by have := s1 (by omega); omega
            clear s1 e1 hjk'
            gi_wp2
            all_goals (
              refine region_quiet_round (by kernel_rfl) (by kernel_rfl) (by kernel_rfl) ?_
              repeat (gi_big_quiet_step (fail))
              refine wpQuietIn_nil ?_
              intro _ hw'
              obtain ⟨nq, hw'⟩ := hw'
              subst hw'
              gi_wp2
              exact round_end _ h4 k4 (kq.drewN nq) hP5 hL4 hDW (by omega) (by omega) (by omega))
  case after =>
    rintro r W' hl ⟨hP, hD, kk⟩
    obtain ⟨rx, hrx⟩ : ∃ x : Loop, x = { r with state := .exhausted } := ⟨_, rfl⟩
    rw [← hrx]
    clear hrx
    have hP6 := hP.putObj (w2.heap.size + 1) (.loop rx) (by omega)
    have hB6 := (kk.blk hB2 (by simp; omega)).putObj (w2.heap.size + 1) (.loop rx) (by omega)
    have hR6 := (kk.blk hR2 (by simp; omega)).putObj (w2.heap.size + 1) (.loop rx) (by omega)
    have hD6 : (W'.putObj (w2.heap.size + 1) (.loop rx)).heap[w2.heap.size]? = some (.deferred (some [])) := (World.putObj_heap_other (by omega)).trans hD
    have k26 : Keep [Pb, Eb] w2 (W'.putObj (w2.heap.size + 1) (.loop rx)) := kk.putObj _ _ (by omega)
    have k06 : Keep [] w (W'.putObj (w2.heap.size + 1) (.loop rx)) := k02.trans k26 (by simp; omega)
    generalize (W'.putObj (w2.heap.size + 1) (.loop rx)) = w6 at hP6 hB6 hR6 hD6 k26 k06 ⊢
    have cP := hP6.cell 0
    have cB := hB6.cell 0
    have cR := hR6.cell 0
    have fR := hR6.free 0
    simp only [List.getElem?_cons_zero] at cP cB cR
    clear hl hP hD kk
    have hD7 : (w6.setCell ⟨Rb, 0, none⟩ (.bool true)).heap[w2.heap.size]? = some (.deferred (some [])) := (heap_setCell_other w6 ⟨Rb, 0, none⟩ _ _ (by dsimp only; omega)).trans hD6
    have hR7 : Blk ((w6.setCell ⟨Rb, 0, none⟩ (.bool true)).putObj w2.heap.size (.deferred none)) Rb 4 [.bool true] := by
      have := (hR6.set 0 (.bool true)).putObj w2.heap.size (.deferred none) (by omega)
      simpa using this
    have k07 : Keep [] w ((w6.setCell ⟨Rb, 0, none⟩ (.bool true)).putObj w2.heap.size (.deferred none)) := (k06.setCell _ _ (by intro h; dsimp only at h; omega)).putObj _ _ (by omega)
    have cR7 := hR7.cell 0
    simp only [List.getElem?_cons_zero] at cR7
    gi_wp2
    refine ⟨by simp, .inl ⟨_, _, rfl, run_takeDeferred hD7, ?_⟩⟩
    refine ⟨.bool true, ?_, rfl, k07⟩
    simp [results, Ybad.results3, go_sem, cR7]
end Go.Proofs.YbulkdfzeDoor
