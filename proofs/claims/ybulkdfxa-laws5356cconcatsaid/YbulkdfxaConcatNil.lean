import Derived.Test.YbulkdfxaConcat
namespace Go.Proofs.Ybulkdfxa
open Go Go.RowKit

set_option maxRecDepth 100000 in
set_option maxHeartbeats 400000 in
theorem concat_nil (a0 : Option Addr) (n c0 : Nat) (az : List Int) (w : World) (h1 : n ≤ 1024)
    (ha : Rd w a0 (az.map (Value.int .i64))) (la : az.length = n) :
    Calls Yba.prog 5 #[.slice a0 n c0, .slice none 0 0] w fun e w' => e = .returned (.bool true) ∧ Keep [] w w' := by
  obtain ⟨i0, hi, hz0, hz1, hz2⟩ := info_parts info3
  have hnil := fun (w : World) => run_neq_slice_nil_any (P := Yba.prog) w 29 3 none 0 0 0 0 Yba.underlying29
  go_enter Yba.func5, Yba.ntmps5
  go_wp2_with (at_make; refine halt ?_)
  refine unhalt ?_
  refine wpList_mk _ rfl (.tmp 27) (.tmp 27) 29 rfl 3 i0 (.int .i64 0) Yba.underlying29 hi hz0 hz1 rfl .i64 .i64 _ _ (n + 4) (n + 4) rfl rfl (by omega) (by omega) (by omega) (by rw [hz2]; omega) (by unfold maxLen; omega) ?_
  intro w1 hB1 hg1 hs1
  have k1 : Keep [] w w1 := (Keep.refl [] w).grown hg1 (by simp)
  clear hg1 hs1
  go_wp2_with (with_reducible refine halt_copy _ _ _ _ _ rfl ?_)
  refine unhalt ?_
  refine wpList_copy_blk _ rfl (.tmp 29) (.tmp 30) 29 rfl 3 i0 Yba.underlying29 hi hz1 w.heap.size 0 (n + 4) (n + 4) rfl a0 n c0 rfl _ (az.map (Value.int .i64)) hB1 (k1.rd ha (by simp)) (by simpa using la) (by omega) (ints_oneCell _ _) (by simp) ?_
  intro w2 hB2 hg2 hs2
  have k2 : Keep [] w w2 := k1.grown hg2 (by simp)
  have hB2' : Blk w2 w.heap.size 3 (backs (az.map (Value.int .i64)) 0) := hB2.cast (backs_start _ n (by simpa using la))
  clear hg2 hs2 hB1 hB2 k1
  go_wp2
  go_loopw [7] (fun i wr => ∃ j : Nat, j ≤ 4 ∧ i = .int .i64 (n + j) ∧ Blk wr w.heap.size 3 (backs (az.map (Value.int .i64)) j) ∧ Keep [] w wr) (fun i _ => (n + 4) - (intOf i).toNat)
  case atStart => exact ⟨0, Nat.zero_le _, by simp, hB2', k2⟩
  case round =>
    obtain ⟨j, hj, rfl, hBr, kr⟩ := hrel
    clear hB2' k2 w2 w1
    by_cases hlt : j < 4
    · have cB := hBr.cell (n + j)
      have fB := hBr.free (n + j)
      rw [List.getElem?_eq_getElem (by rw [backs_len _ _ hj]; simp; omega)] at cB
      go_wp2
      have hBs : Blk (wr.setCell ⟨w.heap.size, n + j, none⟩ (.int .i64 (-7777))) w.heap.size 3 (backs (az.map (Value.int .i64)) (j + 1)) := (hBr.set (n + j) _).cast (backs_set _ j n (by simpa using la) hlt)
      go_roundw
      case rel => exact ⟨j + 1, by omega, by go_num, hBs, kr.setCell _ _ (by simp)⟩
      case measure => simp [intOf]; omega
    · obtain rfl : j = 4 := by omega
      have lB := hBr.lt
      go_wp2_with (go_at_call 9; refine halt ?_)
      refine unhalt ?_
      refine (join_any w.heap.size n 0 0 none (az.map (Value.int .i64)) [] _ wr hBr (by simpa using la) (Rd.empty _ _) rfl (ints_oneCell _ _) (by simp) h1 (by omega)).mono ?_
      rintro e w6 ⟨ro, rcap, rfl, H6⟩
      have k46 := H6.out.2.1
      have hB6 := k46.blk hBr (by simp)
      have k6 : Keep [] w w6 := kr.trans k46 (by simp)
      have rdR : Rd w6 ro (az.map (Value.int .i64)) := by simpa using H6.out.1
      have rdA := k6.rd ha (by simp)
      have HO : Hid ((n = 0 ∧ ro = none) ∨ (0 < n ∧ ∃ g, ro = some ⟨g, 0, none⟩)) := by
        rcases H6.out.2.2 with ⟨h, h', _⟩ | ⟨h, g, h', _⟩
        · exact .inl ⟨h, h'⟩
        · exact .inr ⟨h, g, h'⟩
      clear H6 hBr kr k46
      have k66 : Keep [] w6 w6 := Keep.refl _ _
      go_wp2
      go_loopw [11] (fun i wr => ∃ j : Nat, j ≤ n ∧ i = .int .i64 j ∧ Keep [] w6 wr) (fun i _ => n - (intOf i).toNat)
      case atStart => exact ⟨0, Nat.zero_le _, rfl, k66⟩
      case round =>
        obtain ⟨j, hj, rfl, kr⟩ := hrel
        clear k66
        by_cases hlt : j < n
        · obtain ⟨rb, roff, rfl⟩ := rdR.form (by simp; omega)
          obtain ⟨ab, aoff, rfl⟩ := rdA.form (by simp; omega)
          obtain ⟨z, hz⟩ := some_at az j n la hlt
          have cR := (kr.rd rdR (by simp)).get j _ (map_at hz)
          have cA := (kr.rd rdA (by simp)).get j _ (map_at hz)
          have j1 : (0 : Int) ≤ (j : Int) := by omega
          have j2 : (j : Int) < ((n + 0 : Nat) : Int) := by omega
          have j3 : (j : Int) < (n : Int) := by omega
          clear hz
          go_wp2
          go_quiet (fail)
          have k8 := kr.drewN nq
          clear kr
          go_wp2
          go_roundw
          case rel => exact ⟨j + 1, by omega, by go_num, k8⟩
          case measure => simp [intOf]; omega
        · have k66 := kr
          clear kr
          go_wp2
          clear hlt hj
          refine wp_loop_rounds 1 ?_
          rw [rounds_succ]
          go_wp2
          go_loopw [13] (fun i wr => ∃ j : Nat, j ≤ n ∧ i = .int .i64 j ∧ Keep [] w6 wr) (fun i _ => n - (intOf i).toNat)
          case atStart => exact ⟨0, Nat.zero_le _, rfl, k66⟩
          case round =>
            obtain ⟨j, hj, rfl, kr⟩ := hrel
            clear k66
            by_cases hlt : j < n
            · obtain ⟨ab, aoff, rfl⟩ := rdA.form (by simp; omega)
              obtain ⟨z, hz⟩ := some_at az j n la hlt
              have cB : wr.cell? ⟨w.heap.size, j, none⟩ = some (.int .i64 z) := ((kr.blk hB6 (by simp)).cell j).trans (at_left (map_at hz))
              have cA := (kr.rd rdA (by simp)).get j _ (map_at hz)
              have j1 : (0 : Int) ≤ (j : Int) := by omega
              have j2 : (j : Int) < ((n + 4 : Nat) : Int) := by omega
              have j3 : (j : Int) < (n : Int) := by omega
              clear hz
              go_wp2
              go_quiet (fail)
              have k8 := kr.drewN nq
              clear kr
              go_wp2
              go_roundw
              case rel => exact ⟨j + 1, by omega, by go_num, k8⟩
              case measure => simp [intOf]; omega
            · have k66 := kr
              clear kr
              go_wp2
              clear hlt hj
              go_loopw [14] (fun i wr => ∃ j : Nat, j ≤ 4 ∧ i = .int .i64 (n + j) ∧ Keep [] w6 wr) (fun i _ => (n + 4) - (intOf i).toNat)
              case atStart => exact ⟨0, Nat.zero_le _, by simp, k66⟩
              case round =>
                obtain ⟨j, hj, rfl, kr⟩ := hrel
                clear k66
                by_cases hlt : j < 4
                · have cB : wr.cell? ⟨w.heap.size, n + j, none⟩ = some (.int .i64 (-7777)) := ((kr.blk hB6 (by simp)).cell (n + j)).trans (backs_mark _ j n (by simpa using la) hlt)
                  have j1 : (0 : Int) ≤ (n : Int) + (j : Int) := by omega
                  have j2 : (n : Int) + (j : Int) < (n : Int) + 4 := by omega
                  go_wp2
                  have k8 := kr
                  go_roundw
                  case rel => exact ⟨j + 1, by omega, by go_num, k8⟩
                  case measure => simp [intOf]; omega
                · have k66 := kr
                  clear kr
                  go_wp2
                  clear hlt hj
                  rcases HO.out with ⟨rfl, rfl⟩ | ⟨hn, g, rfl⟩
                  · have q1 := fun (w : World) (l c : Nat) => Lib.run_eql_slice_nil (P := Yba.prog) w 29 3 none l c 0 0 Yba.underlying29
                    refine wp_loop_rounds 1 ?_
                    rw [rounds_succ]
                    go_wp2
                    go_quiet (fail)
                    go_wp2
                    go_ret
                    exact ⟨rfl, k6.trans (k66.drewN nq) (by simp)⟩
                  · have hn0 : ((n : Int) == 0) = false := beq_eq_false_iff_ne.2 (by omega)
                    refine wp_loop_rounds 1 ?_
                    rw [rounds_succ]
                    go_wp2
                    go_quiet (fail)
                    go_wp2
                    go_ret
                    exact ⟨rfl, k6.trans (k66.drewN nq) (by simp)⟩
end Go.Proofs.Ybulkdfxa
