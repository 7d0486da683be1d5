import Derived.Test.YbulkdfxaJoin
import Derived.LaidEqlPtr
import Derived.Lib.SliceRun
namespace Go.Proofs.Ybulkdfxa
open Go Go.RowKit

set_option maxRecDepth 100000 in
theorem concat_long (a0 a1 : Option Addr) (n c0 m c1 : Nat) (w : World) (h : 1024 < n ∨ 1024 < m) (b1 : n ≤ maxLen) (b2 : m ≤ maxLen) :
    Calls Yba.prog 5 #[.slice a0 n c0, .slice a1 m c1] w fun e w' => e = .returned (.bool true) ∧ Keep [] w w' := by
  unfold maxLen at b1 b2
  by_cases h1 : 1024 < n
  · go_enter Yba.func5, Yba.ntmps5
    go_wp2
    go_ret
    exact ⟨rfl, Keep.refl _ _⟩
  · have h2 : 1024 < m := by omega
    go_enter Yba.func5, Yba.ntmps5
    go_wp2
    go_ret
    exact ⟨rfl, Keep.refl _ _⟩

/-- The row 'back' with j marks laid. -/
def backs (xs : List Value) (j : Nat) : List Value := xs ++ (List.replicate j (.int .i64 (-7777)) ++ List.replicate (4 - j) (.int .i64 0))
theorem backs_len (xs : List Value) (j : Nat) (hj : j ≤ 4) : (backs xs j).length = xs.length + 4 := by simp [backs]; omega
theorem backs_set (xs : List Value) (j n : Nat) (hn : xs.length = n) (hj : j < 4) : (backs xs j).set (n + j) (.int .i64 (-7777)) = backs xs (j + 1) := by
  subst hn
  unfold backs
  rw [List.set_append_right _ _ (by omega), show xs.length + j - xs.length = j from by omega]
  congr 1
  match j, hj with
  | 0, _ => rfl
  | 1, _ => rfl
  | 2, _ => rfl
  | 3, _ => rfl
theorem backs_start (xs : List Value) (n : Nat) (hn : xs.length = n) : splice (List.replicate (n + 4) (.int .i64 0)) 0 xs = backs xs 0 := by
  subst hn
  simp [splice, backs]

theorem Rd.form {w : World} {ao : Option Addr} {xs : List Value} (h : Rd w ao xs) (hne : 0 < xs.length) : ∃ b off, ao = some ⟨b, off, Option.none⟩ := by
  cases ao with
  | none => rw [h.1 rfl] at hne; simp at hne
  | some x =>
    have hc := h.2 x rfl 0 xs[0] (by simp [hne])
    have hs := World.cell?_spot hc
    obtain ⟨b, o, sp⟩ := x
    refine ⟨b, o, ?_⟩
    cases sp with
    | none => rfl
    | some q => simp [Addr.add] at hs
theorem Rd.get {w : World} {b off : Nat} {xs : List Value} (h : Rd w (some ⟨b, off, Option.none⟩) xs) (j : Nat) (u : Value) (hj : xs[j]? = some u) : w.cell? ⟨b, off + j, Option.none⟩ = some u := by
  have := h.2 _ rfl j u hj
  rwa [Addr.add_lit] at this
theorem map_at {zs : List Int} {j : Nat} {z : Int} (h : zs[j]? = some z) : (zs.map (Value.int .i64))[j]? = some (.int .i64 z) := by rw [List.getElem?_map, h]; rfl
theorem at_left {xs ys : List Value} {j : Nat} {u : Value} (h : xs[j]? = some u) : (xs ++ ys)[j]? = some u := by
  rw [List.getElem?_append_left (List.getElem?_eq_some_iff.1 h).1]; exact h
theorem at_right {xs ys : List Value} {n j : Nat} {u : Value} (hn : xs.length = n) (h : ys[j]? = some u) : (xs ++ ys)[n + j]? = some u := by
  subst hn
  rw [List.getElem?_append_right (by omega), show xs.length + j - xs.length = j from by omega]; exact h
theorem some_at (zs : List Int) (j n : Nat) (hn : zs.length = n) (hj : j < n) : ∃ z, zs[j]? = some z := ⟨zs[j]'(by omega), List.getElem?_eq_getElem (by omega)⟩
theorem backs_mark (xs : List Value) (j n : Nat) (hn : xs.length = n) (hj : j < 4) : (backs xs 4)[n + j]? = some (.int .i64 (-7777)) := by
  unfold backs
  refine at_right hn ?_
  match j, hj with
  | 0, _ => rfl
  | 1, _ => rfl
  | 2, _ => rfl
  | 3, _ => rfl

theorem ptr_neq_same (a : Addr) (w : World) : (binOp .neq 31 (.pointer (some a)) (.pointer (some a))).run Yba.prog w = .ok (.bool false) w := by
  obtain ⟨j, hj, _⟩ := info_parts info3
  have h : ∀ d : Nat, (Op.equalIn (d + 1) 31 (.pointer (some a)) (.pointer (some a))).run Yba.prog w = .ok true w := fun d => by
    simp [Op.equalIn, run_underlying Yba.underlying31, sizeOf, typeInfo, hj, run_sameAddr_same]
  simp only [binOp]
  simp [Op.equal, Op.maxDepth, h 9999]
theorem ptr_eql_other (g b : Nat) (w : World) (hne : g ≠ b) {cg cb : Array Value} (hg : w.heap[g]? = some (.cells cg 3 (0, 0))) (hb : w.heap[b]? = some (.cells cb 3 (0, 0))) :
    (binOp .eql 31 (.pointer (some ⟨g, 0, none⟩)) (.pointer (some ⟨b, 0, none⟩))).run Yba.prog w = .ok (.bool false) w := by
  obtain ⟨j, hj, _, hs, _⟩ := info_parts info3
  exact run_eql_ptr_other w Yba.underlying31 hj (by omega) (fun h => hne (congrArg Addr.block h)) hg hb

set_option maxRecDepth 100000 in
set_option maxHeartbeats 400000 in
theorem concat_some (a0 : Option Addr) (y : Addr) (n c0 m c1 : Nat) (az bz : List Int) (w : World) (h1 : n ≤ 1024) (h2 : m ≤ 1024)
    (ha : Rd w a0 (az.map (Value.int .i64))) (la : az.length = n) (hb : Rd w (some y) (bz.map (Value.int .i64))) (lb : bz.length = m) :
    Calls Yba.prog 5 #[.slice a0 n c0, .slice (some y) m c1] w fun e w' => e = .returned (.bool true) ∧ Keep [] w w' := by
  obtain ⟨i0, hi, hz0, hz1, hz2⟩ := info_parts info3
  have hnil := fun (w : World) => run_neq_slice_nil_any (P := Yba.prog) w 29 3 (some y) m c1 0 0 Yba.underlying29
  go_enter Yba.func5, Yba.ntmps5
  go_wp2_with (at_make; refine halt ?_)
  refine unhalt ?_
  refine wpList_mk _ rfl (.tmp 27) (.tmp 27) 29 rfl 3 i0 (.int .i64 0) Yba.underlying29 hi hz0 hz1 rfl .i64 .i64 _ _ (n + 4) (n + 4) rfl rfl (by omega) (by omega) (by omega) (by rw [hz2]; omega) (by unfold maxLen; omega) ?_
  intro w1 hB1 hg1 hs1
  have k1 : Keep [] w w1 := (Keep.refl [] w).grown hg1 (by simp)
  clear hg1 hs1
  go_wp2_with (with_reducible refine halt_copy _ _ _ _ _ rfl ?_)
  refine unhalt ?_
  refine wpList_copy_blk _ rfl (.tmp 29) (.tmp 30) 29 rfl 3 i0 Yba.underlying29 hi hz1 w.heap.size 0 (n + 4) (n + 4) rfl a0 n c0 rfl _ (az.map (Value.int .i64)) hB1 (k1.rd ha (by simp)) (by simpa using la) (by omega) (ints_oneCell _ _) (by simp) ?_
  intro w2 hB2 hg2 hs2
  have k2 : Keep [] w w2 := k1.grown hg2 (by simp)
  have hB2' : Blk w2 w.heap.size 3 (backs (az.map (Value.int .i64)) 0) := hB2.cast (backs_start _ n (by simpa using la))
  clear hg2 hs2 hB1 hB2 k1
  go_wp2
  go_loopw [7] (fun i wr => ∃ j : Nat, j ≤ 4 ∧ i = .int .i64 (n + j) ∧ Blk wr w.heap.size 3 (backs (az.map (Value.int .i64)) j) ∧ Keep [] w wr) (fun i _ => (n + 4) - (intOf i).toNat)
  case atStart => exact ⟨0, Nat.zero_le _, by simp, hB2', k2⟩
  case round =>
    obtain ⟨j, hj, rfl, hBr, kr⟩ := hrel
    clear hB2' k2 w2 w1
    by_cases hlt : j < 4
    · have cB := hBr.cell (n + j)
      have fB := hBr.free (n + j)
      rw [List.getElem?_eq_getElem (by rw [backs_len _ _ hj]; simp; omega)] at cB
      go_wp2
      have hBs : Blk (wr.setCell ⟨w.heap.size, n + j, none⟩ (.int .i64 (-7777))) w.heap.size 3 (backs (az.map (Value.int .i64)) (j + 1)) := (hBr.set (n + j) _).cast (backs_set _ j n (by simpa using la) hlt)
      go_roundw
      case rel => exact ⟨j + 1, by omega, by go_num, hBs, kr.setCell _ _ (by simp)⟩
      case measure => simp [intOf]; omega
    · obtain rfl : j = 4 := by omega
      go_wp2_with (at_make; refine halt ?_)
      refine unhalt ?_
      have lB := hBr.lt
      refine wpList_mk _ rfl (.tmp 48) (.tmp 48) 29 rfl 3 i0 (.int .i64 0) Yba.underlying29 hi hz0 hz1 rfl .i64 .i64 _ _ m m rfl rfl (by omega) (by omega) (by omega) (by rw [hz2]; omega) (by unfold maxLen; omega) ?_
      intro w3 hC3 hg3 hs3
      have k3 : Keep [] w w3 := kr.grown hg3 (by simp)
      have hB3 := hBr.kept hg3 (by simp)
      clear hg3 hs3
      go_wp2_with (with_reducible refine halt_copy _ _ _ _ _ rfl ?_)
      refine unhalt ?_
      refine wpList_copy_blk _ rfl (.tmp 50) (.tmp 51) 29 rfl 3 i0 Yba.underlying29 hi hz1 wr.heap.size 0 m m rfl (some y) m c1 rfl _ (bz.map (Value.int .i64)) hC3 (k3.rd hb (by simp)) (by simpa using lb) (by omega) (ints_oneCell _ _) (by simp) ?_
      intro w4 hC4 hg4 hs4
      have k4 : Keep [] w w4 := k3.grown hg4 (by simp; omega)
      have hC4' : Blk w4 wr.heap.size 3 (bz.map (Value.int .i64)) := hC4.cast (by simp [splice, lb])
      have hB4 := hB3.kept hg4 (by simp; omega)
      clear hg4 hs4 hC4 hC3 hB3 hBr k3 kr
      go_wp2_with (go_at_call 9; refine halt ?_)
      refine unhalt ?_
      refine (join_any w.heap.size n m m (some ⟨wr.heap.size, 0, none⟩) (az.map (Value.int .i64)) (bz.map (Value.int .i64)) _ w4 hB4 (by simpa using la) (Rd.of_blk hC4' 0 _ (fun j u hj => by simpa using hj)) (by simpa using lb) (ints_oneCell _ _) (ints_oneCell _ _) h1 h2).mono ?_
      rintro e w6 ⟨ro, rcap, rfl, H6⟩
      have k46 := H6.out.2.1
      have hB6 := k46.blk hB4 (by simp)
      have hC6 := k46.blk hC4' (by simp)
      have k6 : Keep [] w w6 := k4.trans k46 (by simp)
      have rdR := H6.out.1
      have rdA := k6.rd ha (by simp)
      have rdB := k6.rd hb (by simp)
      have HO : Hid ((n = 0 ∧ ro = some ⟨wr.heap.size, 0, none⟩ ∧ rcap = m) ∨ (0 < n ∧ ∃ g, ro = some ⟨g, 0, none⟩ ∧ (0 < m → w4.heap.size ≤ g) ∧ ∃ c, w6.heap[g]? = some (.cells c 3 (0, 0)))) := H6.out.2.2
      have lC4 := hC4'.lt
      clear H6 hB4 hC4' k4 k46
      generalize wr.heap.size = C at HO hC6 lC4 lB ⊢
      clear wr
      have k66 : Keep [] w6 w6 := Keep.refl _ _
      go_wp2
      go_loopw [11] (fun i wr => ∃ j : Nat, j ≤ n ∧ i = .int .i64 j ∧ Keep [] w6 wr) (fun i _ => n - (intOf i).toNat)
      case atStart => exact ⟨0, Nat.zero_le _, rfl, k66⟩
      case round =>
        obtain ⟨j, hj, rfl, kr⟩ := hrel
        clear k66
        by_cases hlt : j < n
        · obtain ⟨rb, roff, rfl⟩ := rdR.form (by simp; omega)
          obtain ⟨ab, aoff, rfl⟩ := rdA.form (by simp; omega)
          obtain ⟨z, hz⟩ := some_at az j n la hlt
          have cR := (kr.rd rdR (by simp)).get j _ (at_left (map_at hz))
          have cA := (kr.rd rdA (by simp)).get j _ (map_at hz)
          have j1 : (0 : Int) ≤ (j : Int) := by omega
          have j2 : (j : Int) < ((n + m : Nat) : Int) := by omega
          have j3 : (j : Int) < (n : Int) := by omega
          clear hz
          go_wp2
          go_quiet (fail)
          have k8 := kr.drewN nq
          clear kr
          go_wp2
          go_roundw
          case rel => exact ⟨j + 1, by omega, by go_num, k8⟩
          case measure => simp [intOf]; omega
        · have k66 := kr
          clear kr
          go_wp2
          clear hlt hj
          go_loopw [12] (fun i wr => ∃ j : Nat, j ≤ m ∧ i = .int .i64 j ∧ Keep [] w6 wr) (fun i _ => m - (intOf i).toNat)
          case atStart => exact ⟨0, Nat.zero_le _, rfl, k66⟩
          case round =>
            obtain ⟨j, hj, rfl, kr⟩ := hrel
            clear k66
            by_cases hlt : j < m
            · obtain ⟨rb, roff, rfl⟩ := rdR.form (by simp; omega)
              obtain ⟨yb, yo, hy⟩ := rdB.form (by simp; omega)
              obtain rfl := Option.some.inj hy
              obtain ⟨z, hz⟩ := some_at bz j m lb hlt
              have cR := (kr.rd rdR (by simp)).get (n + j) _ (at_right (by simpa using la) (map_at hz))
              have cB := (kr.rd rdB (by simp)).get j _ (map_at hz)
              have j1 : (0 : Int) ≤ (n : Int) + (j : Int) := by omega
              have j2 : (n : Int) + (j : Int) < ((n + m : Nat) : Int) := by omega
              have j3 : (j : Int) < (m : Int) := by omega
              have j4 : (0 : Int) ≤ (j : Int) := by omega
              have j5 : ((n : Int) + (j : Int)).toNat = n + j := by omega
              clear hz
              go_wp2
              go_quiet (fail)
              have k8 := kr.drewN nq
              clear kr
              go_wp2
              go_roundw
              case rel => exact ⟨j + 1, by omega, by go_num, k8⟩
              case measure => simp [intOf]; omega
            · have k66 := kr
              clear kr
              go_wp2
              clear hlt hj
              go_loopw [13] (fun i wr => ∃ j : Nat, j ≤ n ∧ i = .int .i64 j ∧ Keep [] w6 wr) (fun i _ => n - (intOf i).toNat)
              case atStart => exact ⟨0, Nat.zero_le _, rfl, k66⟩
              case round =>
                obtain ⟨j, hj, rfl, kr⟩ := hrel
                clear k66
                by_cases hlt : j < n
                · obtain ⟨ab, aoff, rfl⟩ := rdA.form (by simp; omega)
                  obtain ⟨z, hz⟩ := some_at az j n la hlt
                  have cB : wr.cell? ⟨w.heap.size, j, none⟩ = some (.int .i64 z) := ((kr.blk hB6 (by simp)).cell j).trans (at_left (map_at hz))
                  have cA := (kr.rd rdA (by simp)).get j _ (map_at hz)
                  have j1 : (0 : Int) ≤ (j : Int) := by omega
                  have j2 : (j : Int) < ((n + 4 : Nat) : Int) := by omega
                  have j3 : (j : Int) < (n : Int) := by omega
                  clear hz
                  go_wp2
                  go_quiet (fail)
                  have k8 := kr.drewN nq
                  clear kr
                  go_wp2
                  go_roundw
                  case rel => exact ⟨j + 1, by omega, by go_num, k8⟩
                  case measure => simp [intOf]; omega
                · have k66 := kr
                  clear kr
                  go_wp2
                  clear hlt hj
                  go_loopw [14] (fun i wr => ∃ j : Nat, j ≤ 4 ∧ i = .int .i64 (n + j) ∧ Keep [] w6 wr) (fun i _ => (n + 4) - (intOf i).toNat)
                  case atStart => exact ⟨0, Nat.zero_le _, by simp, k66⟩
                  case round =>
                    obtain ⟨j, hj, rfl, kr⟩ := hrel
                    clear k66
                    by_cases hlt : j < 4
                    · have cB : wr.cell? ⟨w.heap.size, n + j, none⟩ = some (.int .i64 (-7777)) := ((kr.blk hB6 (by simp)).cell (n + j)).trans (backs_mark _ j n (by simpa using la) hlt)
                      have j1 : (0 : Int) ≤ (n : Int) + (j : Int) := by omega
                      have j2 : (n : Int) + (j : Int) < (n : Int) + 4 := by omega
                      go_wp2
                      have k8 := kr
                      go_roundw
                      case rel => exact ⟨j + 1, by omega, by go_num, k8⟩
                      case measure => simp [intOf]; omega
                    · have k66 := kr
                      clear kr
                      go_wp2
                      clear hlt hj
                      go_loopw [15] (fun i wr => ∃ j : Nat, j ≤ m ∧ i = .int .i64 j ∧ Keep [] w6 wr) (fun i _ => m - (intOf i).toNat)
                      case atStart => exact ⟨0, Nat.zero_le _, rfl, k66⟩
                      case round =>
                        obtain ⟨j, hj, rfl, kr⟩ := hrel
                        clear k66
                        by_cases hlt : j < m
                        · obtain ⟨yb, yo, hy⟩ := rdB.form (by simp; omega)
                          obtain rfl := Option.some.inj hy
                          obtain ⟨z, hz⟩ := some_at bz j m lb hlt
                          have cC : wr.cell? ⟨C, j, none⟩ = some (.int .i64 z) := ((kr.blk hC6 (by simp)).cell j).trans (map_at hz)
                          have cB := (kr.rd rdB (by simp)).get j _ (map_at hz)
                          have j1 : (0 : Int) ≤ (j : Int) := by omega
                          have j2 : (j : Int) < (m : Int) := by omega
                          clear hz
                          go_wp2
                          go_quiet (fail)
                          have k8 := kr.drewN nq
                          clear kr
                          go_wp2
                          go_roundw
                          case rel => exact ⟨j + 1, by omega, by go_num, k8⟩
                          case measure => simp [intOf]; omega
                        · have k66 := kr
                          clear kr
                          rcases HO.out with ⟨rfl, rfl, hrc⟩ | ⟨hn, g, rfl, hg, c, hgc⟩
                          · clear hrc
                            have q1 := fun (w : World) (l c : Nat) => Lib.run_eql_slice_nil (P := Yba.prog) w 29 3 (some ⟨C, 0, none⟩) l c 0 0 Yba.underlying29
                            have q2 := ptr_neq_same ⟨C, 0, none⟩
                            by_cases hm0 : 0 < m
                            · have d1 : (0 : Int) < (m : Int) := by omega
                              have d2 : (0 : Int) < ((0 + m : Nat) : Int) := by omega
                              go_wp2
                              go_quiet (fail)
                              go_wp2
                              go_ret
                              exact ⟨rfl, k6.trans (k66.drewN nq) (by simp)⟩
                            · have d1 : decide ((0 : Int) < (m : Int)) = false := decide_eq_false (by omega)
                              go_wp2
                              go_quiet (fail)
                              go_wp2
                              go_ret
                              exact ⟨rfl, k6.trans (k66.drewN nq) (by simp)⟩
                          · have hn0 : ((n : Int) == 0) = false := beq_eq_false_iff_ne.2 (by omega)
                            by_cases hm0 : 0 < m
                            · have d1 : (0 : Int) < (m : Int) := by omega
                              have d2 : (0 : Int) < ((n + m : Nat) : Int) := by omega
                              have d3 : (0 : Int) < ((n + 4 : Nat) : Int) := by omega
                              have hgB : g ≠ w.heap.size := by have := hg hm0; omega
                              have q2 := fun k => ptr_eql_other g w.heap.size (wr.drewN k) hgB (((k66.block g ((Array.getElem?_eq_some_iff.1 hgc).1) (by simp)).trans hgc)) (k66.blk hB6 (by simp))
                              go_wp2
                              go_quiet (fail)
                              go_wp2
                              go_ret
                              exact ⟨rfl, k6.trans (k66.drewN nq) (by simp)⟩
                            · have d1 : decide ((0 : Int) < (m : Int)) = false := decide_eq_false (by omega)
                              go_wp2
                              go_quiet (fail)
                              go_wp2
                              go_ret
                              exact ⟨rfl, k6.trans (k66.drewN nq) (by simp)⟩
end Go.Proofs.Ybulkdfxa
