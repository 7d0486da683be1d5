import Derived.Test.YbulkdfvyDoorLaw
import Derived.Lib.SliceRun
namespace Go.Proofs.YbulkdfvyDoor
open Go Go.RowKit

theorem ptr39 : ∃ i j, Ybad.prog.info? 39 = some i ∧ i.comparable = true ∧ Ybad.prog.info? 60 = some j := by
  have h1 : (Ybad.prog.info? 39).map (·.comparable) = some true := by kernel_rfl
  have h2 : (Ybad.prog.info? 60).isSome = true := by kernel_rfl
  obtain ⟨i, hi, hc⟩ := Option.map_eq_some_iff.1 h1
  obtain ⟨j, hj⟩ := Option.isSome_iff_exists.1 h2
  exact ⟨i, j, hi, hc, hj⟩

theorem eql_sentinel (ea : Addr) (w : World) : (binOp .eql 32 (.iface 39 (.pointer (some ea))) (.iface 39 (.pointer (some ea)))).run Ybad.prog w = .ok (.bool true) w := by
  obtain ⟨i, j, hi, hc, hj⟩ := ptr39
  exact run_eql_iface_ptr_same w ea Ybad.underlying32 Ybad.underlying39 hi hc hj

/-- The length in a slot that holds a slice. -/
def slLen : Value → Nat | .slice _ n _ => n | _ => 0

theorem law_long (r0 ca : Option Addr) (rl rc lc cc : Nat) (front fail : Bool) (k : Int) (w : World) (h : 4096 < rl ∨ 4096 < lc) (b1 : rl ≤ maxLen) (b2 : lc ≤ maxLen) :
    Calls Ybad.prog 3 #[.slice r0 rl rc, .slice ca lc cc, .bool front, .bool fail, .int .u8 k] w fun e w' => e = .returned (.bool true) ∧ Keep [] w w' := by
  unfold maxLen at b1 b2
  by_cases h1 : 4096 < rl
  · go_enter Ybad.func3, Ybad.ntmps3
    go_wp2
    go_ret
    exact ⟨rfl, Keep.refl _ _⟩
  · have h2 : 4096 < lc := by omega
    go_enter Ybad.func3, Ybad.ntmps3
    go_wp2
    go_ret
    exact ⟨rfl, Keep.refl _ _⟩

theorem splice_snoc (sz : List Int) (L C : Nat) (h : sz.length = L) :
    splice (sz.map (Value.int .u8) ++ List.replicate (C - L) (.int .u8 0)) (0 + L) [.int .u8 (L : Int)] = (sz ++ [(L : Int)]).map (Value.int .u8) ++ List.replicate (C - (L + 1)) (.int .u8 0) := by
  unfold splice
  have hl : (sz.map (Value.int .u8)).length = L := by simpa using h
  rw [Nat.zero_add, List.take_append_of_le_length (by omega), List.take_of_length_le (by omega), List.drop_append, hl]
  rw [List.drop_eq_nil_of_le (by omega)]
  simp
  omega

set_option maxHeartbeats 400000 in
theorem law_front (r0 ca : Option Addr) (rl rc lc cc : Nat) (fail : Bool) (k : Int) (rz cz : List Int) (ea : Addr) (w : World) (h1 : rl ≤ 4096) (h2 : lc ≤ 4096)
    (hr : Rd w r0 (rz.map (Value.int .u8))) (lr : rz.length = rl) (hc : Rd w ca (cz.map (Value.int .u8))) (lcz : cz.length = lc) (hE : w.cell? ⟨0, 0, none⟩ = some (.iface 39 (.pointer (some ea)))) :
    Calls Ybad.prog 3 #[.slice r0 rl rc, .slice ca lc cc, .bool true, .bool fail, .int .u8 k] w fun e w' => e = .returned (.bool true) ∧ Keep [] w w' := by
  obtain ⟨i0, hi, hz0, hz1, hz2⟩ := info_parts info5
  have lE := block_lt_of_cell hE
  simp at lE
  go_enter Ybad.func3, Ybad.ntmps3
  go_wp2_with (at_make; refine halt ?_)
  refine unhalt ?_
  refine wpList_mk _ rfl (.const (.int .i64 0)) (.tmp 30) 22 rfl 5 i0 (.int .u8 0) Ybad.underlying22 hi hz0 hz1 rfl .i64 .i64 _ _ 0 (rl + 28) rfl rfl (by omega) (by omega) (by omega) (by rw [hz2]; omega) (by unfold maxLen; omega) ?_
  intro w1 hS1 hg1 hs1
  have k1 : Keep [] w w1 := (Keep.refl [] w).grown hg1 (by simp)
  have hs1' : w.heap.size < w1.heap.size := by omega
  clear hg1 hs1
  go_wp2_with (at_builtin; refine halt ?_)
  refine unhalt ?_
  refine wpList_app_room _ rfl (.tmp 32) (.tmp 33) 22 rfl 5 i0 Ybad.underlying22 hi hz1 w.heap.size 0 0 (rl + 28) rfl r0 rl rc rfl _ (rz.map (Value.int .u8)) hS1 (k1.rd hr (by simp)) (by simpa using lr) (ints_oneCell _ _) (by omega) (by simp) ?_
  intro w2 hS2 hg2 hs2
  have k2 : Keep [] w w2 := k1.grown hg2 (by simp)
  have hs2' : w.heap.size < w2.heap.size := by omega
  have hS2' : Blk w2 w.heap.size 5 (rz.map (Value.int .u8) ++ List.replicate (rl + 28 - rl) (.int .u8 0)) := hS2.cast (by simp [splice, lr])
  clear hg2 hs2 hS2 hS1
  go_wp2_with fail
  go_loopw [11] (fun v wr => ∃ L, ∃ sz : List Int, rl ≤ L ∧ L ≤ rl + 28 ∧ v = .slice (some ⟨w.heap.size, 0, none⟩) L (rl + 28) ∧ sz.length = L ∧ Blk wr w.heap.size 5 (sz.map (Value.int .u8) ++ List.replicate (rl + 28 - L) (.int .u8 0)) ∧ Keep [] w wr) (fun v _ => 28 - slLen v)
  case atStart => exact ⟨rl, rz, Nat.le_refl _, by omega, by simp, lr, hS2', k2⟩
  case round =>
    obtain ⟨L, sz, hL1, hL2, rfl, lsz, hSr, kr⟩ := hrel
    have hsr : w.heap.size < wr.heap.size := hSr.lt
    clear hS2' k2 hs2' w2 k1 hs1' w1
    by_cases hlt : L < 28
    · go_wp2_with (at_builtin; refine halt ?_)
      refine unhalt ?_
      refine wpList_app_room _ rfl (.tmp 38) (.tmp 42) 22 rfl 5 i0 Ybad.underlying22 hi hz1 w.heap.size 0 L (rl + 28) rfl (some ⟨wr.heap.size, 0, none⟩) 1 1 rfl _ [.int .u8 (L : Int)] (hSr.alloc _) (Rd.of_blk (Blk.new wr #[.int .u8 (L : Int)] 5) 0 _ (by simp)) rfl (ints_oneCell .u8 [_]) (by omega) (by simp; omega) ?_
      intro w3 hS3 hg3 hs3
      have k3 : Keep [] w w3 := (kr.alloc _).grown hg3 (by simp)
      have hS3' : Blk w3 w.heap.size 5 ((sz ++ [(L : Int)]).map (Value.int .u8) ++ List.replicate (rl + 28 - (L + 1)) (.int .u8 0)) := hS3.cast (splice_snoc sz L (rl + 28) lsz)
      clear hg3 hs3 hS3 hSr kr
      go_wp2
      go_roundw
      case rel => exact ⟨L + 1, sz ++ [(L : Int)], by omega, by omega, rfl, by simp [lsz], hS3', k3⟩
      case measure => simp [slLen]; omega
    · go_wp2_with (at_builtin; refine halt ?_)
      refine unhalt ?_
      refine wpList_app_clone _ rfl (.tmp 44) (.tmp 45) 22 rfl 5 i0 (.int .u8 0) Ybad.underlying22 hi hz0 hz1 rfl wr.heap.size rfl (Blk.new' _ _ _ _ rfl) (some ⟨w.heap.size, 0, none⟩) L (rl + 28) rfl (sz.map (Value.int .u8)) (Rd.of_blk (hSr.alloc _) 0 _ (fun j u hj => by rw [Nat.zero_add, List.getElem?_append_left (List.getElem?_eq_some_iff.1 hj).1]; exact hj)) (by simpa using lsz) (ints_oneCell _ _) (by rw [hz2]; omega) (by unfold maxLen; omega) ?_
      intro K Kc w4 hgK hKc hK4 hg4 hKlt
      have k4 : Keep [] w w4 := (kr.alloc _).grown hg4 (by simp)
      have hS4 : Blk w4 w.heap.size 5 (sz.map (Value.int .u8) ++ List.replicate (rl + 28 - L) (.int .u8 0)) := (hSr.alloc _).kept hg4 (by simp)
      have hK' : w.heap.size < K := by rcases hgK with h | h <;> simp [h] <;> omega
      clear hg4 hgK hSr kr
      have lS4 := hS4.lt
      have lK4 := hK4.lt
      have hA4 := (Blk.new w4 #[.bool true, .bool fail, .int .u8 k, .int .i64 0, .slice none 0 0, .slice none 0 0, .slice none 0 0] 25).alloc (.cells #[.iface 23 (.pointer (some ⟨w4.heap.size, 0, none⟩)), .int .i64 0] 30)
      have hO4 := Blk.new' (w4.alloc (.cells #[.bool true, .bool fail, .int .u8 k, .int .i64 0, .slice none 0 0, .slice none 0 0, .slice none 0 0] 25)) #[.iface 23 (.pointer (some ⟨w4.heap.size, 0, none⟩)), .int .i64 0] 30 (w4.heap.size + 1) (by simp)
      have k44 : Keep [] w4 ((w4.alloc (.cells #[.bool true, .bool fail, .int .u8 k, .int .i64 0, .slice none 0 0, .slice none 0 0, .slice none 0 0] 25)).alloc (.cells #[.iface 23 (.pointer (some ⟨w4.heap.size, 0, none⟩)), .int .i64 0] 30)) := ((Keep.refl [] w4).alloc _).alloc _
      have hsz : ((w4.alloc (.cells #[.bool true, .bool fail, .int .u8 k, .int .i64 0, .slice none 0 0, .slice none 0 0, .slice none 0 0] 25)).alloc (.cells #[.iface 23 (.pointer (some ⟨w4.heap.size, 0, none⟩)), .int .i64 0] 30)).heap.size = w4.heap.size + 2 := by simp
      have rdS : Rd w4 (some ⟨w.heap.size, 0, none⟩) (sz.map (Value.int .u8)) := Rd.of_blk hS4 0 _ (fun j u hj => by rw [Nat.zero_add, List.getElem?_append_left (List.getElem?_eq_some_iff.1 hj).1]; exact hj)
      have rdK : Rd w4 (some ⟨K, 0, none⟩) (sz.map (Value.int .u8)) := Rd.of_blk hK4 0 _ (fun j u hj => by rw [Nat.zero_add, List.getElem?_append_left (List.getElem?_eq_some_iff.1 hj).1]; exact hj)
      have sw := k4.size
      go_wp2_with (go_at_call 4; refine halt ?_)
      refine unhalt ?_
      have HX := opener_front (w4.heap.size + 1) w4.heap.size w.heap.size L (rl + 28) (L - 28) lc cc fail k ca sz (cz.map (Value.int .u8)) _ _ hO4 hA4 (k44.rd rdS (by simp)) lsz (by omega) (by omega) (by omega) (by omega) (by omega) (k44.rd (k4.rd hc (by simp)) (by simp)) (by simpa using lcz) (ints_oneCell _ _) (by omega) (k44.cell (k4.cell hE (by simp)) (by simp)) (by omega) (by rw [hsz]; omega) (by omega) (by omega)
      refine HX.mono ?_
      clear HX
      generalize ((w4.alloc (.cells #[.bool true, .bool fail, .int .u8 k, .int .i64 0, .slice none 0 0, .slice none 0 0, .slice none 0 0] 25)).alloc (.cells #[.iface 23 (.pointer (some ⟨w4.heap.size, 0, none⟩)), .int .i64 0] 30)) = W at k44 hsz
      rintro e w5 ⟨⟨g1, c1, g2, c2, g3, c3, hA5, hn5, hc5, hd5, bg1, bg2, bg3⟩, k5, hout⟩
      have k45 : Keep [] w4 w5 := k44.trans k5 (by simp)
      have k05 : Keep [] w w5 := k4.trans k45 (by simp)
      have hA5' : Blk w5 w4.heap.size 25 [.bool true, .bool fail, .int .u8 k, .int .i64 1, .slice (some ⟨g1, 0, none⟩) 0 c1, .slice (some ⟨g2, 0, none⟩) L c2, .slice (some ⟨g3, 0, none⟩) (3 + lc) c3] := hA5.cast (by simp [lsz, lcz]; omega)
      have rdS5 := k45.rd rdS (by simp)
      have rdK5 := k45.rd rdK (by simp)
      have lA5 := hA5.lt
      clear hA5 hA4 hO4 rdS rdK hS4 hK4 hsz k5 k44
      rcases hout with ⟨rfl, rfl⟩ | ⟨rfl, F, hF, rfl, hpt⟩
      · go_wp2_with (go_at_call 5; refine halt ?_)
        refine unhalt ?_
        refine (equal_same w.heap.size 0 L (rl + 28) K 0 L Kc sz w5 rdS5 rdK5 lsz lsz).mono ?_
        rintro e w5 ⟨rfl, rfl⟩
        have a3 := hA5'.cell 3
        have a4 := hA5'.cell 4
        have a5 := hA5'.cell 5
        have a6 := hA5'.cell 6
        simp at a3 a4 a5 a6
        have i1 : (0 : Int) ≤ (L : Int) := by omega
        have i2 : (L : Int) ≤ (Kc : Int) := by omega
        have i3 : (0 : Int) ≤ (Kc : Int) := by omega
        go_wp2
        go_quiet (first | (go_at_call_of 5 g1; exact Calls.quiet_of_same (equal_same g1 0 0 c1 K 0 0 Kc [] _ (Rd.empty _ _) (Rd.empty _ _) rfl rfl)) | (go_at_call_of 5 g2; exact Calls.quiet_of_same (equal_same g2 0 L c2 K 0 L Kc sz _ (by exact hc5) (by exact rdK5) lsz lsz)))
        go_wp2_with (at_builtin; refine halt ?_)
        refine unhalt ?_
        refine wpList_app_full _ rfl (.tmp 94) (.tmp 95) 22 rfl 5 i0 (.int .u8 0) Ybad.underlying22 hi hz0 hz1 rfl w5.heap.size 3 rfl [.int .u8 75, .int .u8 70, .int .u8 1] (Blk.new' _ _ _ _ rfl) rfl ca lc cc rfl (cz.map (Value.int .u8)) (Rd.alloc (k05.rd hc (by simp)) _) (by simpa using lcz) (ints_oneCell _ _) (by rw [hz2]; omega) (by unfold maxLen; omega) ?_
        intro G Gc w7 hG hGc hG7 hg7 hGl
        have k57 : Keep [] w5 w7 := (((Keep.refl [] w5).drewN nq).alloc _).grown hg7 (by simp)
        have hA7 := k57.blk hA5' (by simp)
        have a6' := hA7.cell 6
        simp at a6'
        have rdG : Rd w7 (some ⟨G, 0, none⟩) (([75, 70, 1] ++ cz).map (Value.int .u8)) := Rd.of_blk hG7 0 _ (fun j u hj => by rw [Nat.zero_add, List.getElem?_append_left (by have := (List.getElem?_eq_some_iff.1 hj).1; simpa using this)]; simpa using hj)
        have rdD : Rd w7 (some ⟨g3, 0, none⟩) (([75, 70, 1] ++ cz).map (Value.int .u8)) := k57.rd hd5 (by simp)
        have rdK7 := k57.rd rdK5 (by simp)
        have k07 : Keep [] w w7 := k05.trans k57 (by simp)
        have hE7 := k07.cell hE (by simp)
        clear hg7 hG7 a3 a4 a5 a6 hA5' hA7 rdS5 rdK5 hn5 hc5 hd5
        go_wp2_with (go_at_call 5; refine halt ?_)
        refine unhalt ?_
        refine (equal_same g3 0 (3 + lc) c3 G 0 (3 + lc) Gc ([75, 70, 1] ++ cz) w7 rdD rdG (by simp; omega) (by simp; omega)).mono ?_
        rintro e w7 ⟨rfl, rfl⟩
        have q1 := fun (w : World) => Lib.run_eql_slice_nil (P := Ybad.prog) w 22 5 none 0 0 0 0 Ybad.underlying22
        have q2 := eql_sentinel ea
        go_wp2
        go_ret
        exact ⟨rfl, k07⟩
      · go_wp2_with (go_at_call 5; refine halt ?_)
        refine unhalt ?_
        refine (equal_same w.heap.size 0 L (rl + 28) K 0 L Kc sz w5 rdS5 rdK5 lsz lsz).mono ?_
        rintro e w5 ⟨rfl, rfl⟩
        have a3 := hA5'.cell 3
        have a4 := hA5'.cell 4
        have a5 := hA5'.cell 5
        have a6 := hA5'.cell 6
        simp at a3 a4 a5 a6
        have i1 : (0 : Int) ≤ (L : Int) := by omega
        have i2 : (L : Int) ≤ (Kc : Int) := by omega
        have i3 : (0 : Int) ≤ (Kc : Int) := by omega
        go_wp2
        go_quiet (first | (go_at_call_of 5 g1; exact Calls.quiet_of_same (equal_same g1 0 0 c1 K 0 0 Kc [] _ (Rd.empty _ _) (Rd.empty _ _) rfl rfl)) | (go_at_call_of 5 g2; exact Calls.quiet_of_same (equal_same g2 0 L c2 K 0 L Kc sz _ (by exact hc5) (by exact rdK5) lsz lsz)))
        go_wp2_with (at_builtin; refine halt ?_)
        refine unhalt ?_
        refine wpList_app_full _ rfl (.tmp 94) (.tmp 95) 22 rfl 5 i0 (.int .u8 0) Ybad.underlying22 hi hz0 hz1 rfl w5.heap.size 3 rfl [.int .u8 75, .int .u8 70, .int .u8 1] (Blk.new' _ _ _ _ rfl) rfl ca lc cc rfl (cz.map (Value.int .u8)) (Rd.alloc (k05.rd hc (by simp)) _) (by simpa using lcz) (ints_oneCell _ _) (by rw [hz2]; omega) (by unfold maxLen; omega) ?_
        intro G Gc w7 hG hGc hG7 hg7 hGl
        have k57 : Keep [] w5 w7 := (((Keep.refl [] w5).drewN nq).alloc _).grown hg7 (by simp)
        have hA7 := k57.blk hA5' (by simp)
        have a6' := hA7.cell 6
        simp at a6'
        have rdG : Rd w7 (some ⟨G, 0, none⟩) (([75, 70, 1] ++ cz).map (Value.int .u8)) := Rd.of_blk hG7 0 _ (fun j u hj => by rw [Nat.zero_add, List.getElem?_append_left (by have := (List.getElem?_eq_some_iff.1 hj).1; simpa using this)]; simpa using hj)
        have rdD : Rd w7 (some ⟨g3, 0, none⟩) (([75, 70, 1] ++ cz).map (Value.int .u8)) := k57.rd hd5 (by simp)
        have rdK7 := k57.rd rdK5 (by simp)
        have k07 : Keep [] w w7 := k05.trans k57 (by simp)
        have hE7 := k07.cell hE (by simp)
        clear hg7 hG7 a3 a4 a5 a6 hA5' hA7 rdS5 rdK5 hn5 hc5 hd5
        go_wp2_with (go_at_call 5; refine halt ?_)
        refine unhalt ?_
        refine (equal_same g3 0 (3 + lc) c3 G 0 (3 + lc) Gc ([75, 70, 1] ++ cz) w7 rdD rdG (by simp; omega) (by simp; omega)).mono ?_
        rintro e w7 ⟨rfl, rfl⟩
        have q1 := fun (w : World) => Lib.run_eql_slice_nil (P := Ybad.prog) w 22 5 none 0 0 0 0 Ybad.underlying22
        have q2 := eql_sentinel ea
        have hptw := k57.rd hpt (by simp)
        go_wp2
        clear q1 q2 hpt a6' rdG rdD
        go_loopw [19] (fun i wr => ∃ j : Nat, j ≤ L - 28 ∧ i = .int .i64 j ∧ Keep [] w7 wr) (fun i _ => (L - 28) - (intOf i).toNat)
        case atStart => exact ⟨0, Nat.zero_le _, rfl, Keep.refl _ _⟩
        case round =>
          obtain ⟨j, hj, rfl, kr⟩ := hrel
          by_cases hjl : j < L - 28
          · obtain ⟨z, hz⟩ : ∃ z, sz[12 + j]? = some z := ⟨sz[12 + j]'(by omega), List.getElem?_eq_getElem (by omega)⟩
            have cK : wr.cell? ⟨K, 12 + j, none⟩ = some (.int .u8 z) := by
              have := (kr.rd rdK7 (by simp)).2 _ rfl (12 + j) (.int .u8 z) (by rw [List.getElem?_map, hz]; rfl)
              simpa [Addr.add_lit] using this
            have cP : wr.cell? ⟨F, j, none⟩ = some (.int .u8 (bits .xor .u8 z k)) := by
              have := (kr.rd hptw (by simp)).2 _ rfl j (.int .u8 (bits .xor .u8 z k)) (by rw [List.getElem?_map, List.getElem?_take, if_pos hjl, List.getElem?_drop, hz]; rfl)
              simpa [Addr.add_lit] using this
            clear hz
            have j1 : (0 : Int) ≤ (j : Int) := by omega
            have j2 : (j : Int) < ((L - 28 : Nat) : Int) := by omega
            have j3 : (12 : Int) + (j : Int) < (L : Int) := by omega
            have j4 : (0 : Int) ≤ (12 : Int) + (j : Int) := by omega
            have j5 : (12 + (j : Int)).toNat = 12 + j := by omega
            go_wp2
            go_quiet (fail)
            have k8 := kr.drewN nq
            clear kr
            go_wp2
            go_roundw
            case rel => exact ⟨j + 1, by omega, by go_num, k8⟩
            case measure => simp [intOf]; omega
          · go_wp2
            go_ret
            exact ⟨rfl, k07.trans kr (by simp)⟩
end Go.Proofs.YbulkdfvyDoor
