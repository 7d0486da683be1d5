import Derived.Test.YbulkdfxoFmtExpect
import Derived.Laws.BytesArg
namespace Go.Proofs.YbulkdfxoFmt
open Go Go.RowKit Go.Extern.Stop Go.Stop Go.Extern

theorem info5 : (Ybaf.prog.info? 5).map (fun i => (i.zero, i.size, i.bytes)) = some (some (.int .u8 0), 1, 1) := by kernel_rfl

/-- A row of n cells, the first j laid. -/
def fill (L : List Value) (z : Value) (n j : Nat) : List Value := L.take j ++ List.replicate (n - j) z
theorem fill_len (L : List Value) (z : Value) (n j : Nat) (hj : j ≤ n) (hL : j ≤ L.length) : (fill L z n j).length = n := by simp [fill]; omega
theorem fill_set (L : List Value) (z u : Value) (n j : Nat) (h : L[j]? = some u) (hj : j < n) : (fill L z n j).set j u = fill L z n (j + 1) := by
  have hl : j < L.length := (List.getElem?_eq_some_iff.1 h).1
  unfold fill
  rw [List.set_append_right _ _ (by simp; omega), List.take_add_one, h]
  have e : j - (L.take j).length = 0 := by simp; omega
  rw [e]
  obtain ⟨m, hm⟩ : ∃ m, n - j = m + 1 := ⟨n - j - 1, by omega⟩
  rw [hm, List.replicate_succ, List.set_cons_zero, show n - (j + 1) = m from by omega]
  simp

/-- The letters and digits that the law picks. -/
def letOf (z : Int) : Int := ([65, 90, 89, 83, 70, 76, 64, 91, 97, 32] : List Int).getD (z % 10).toNat 0
def digOf (z : Int) : Int := ([48, 49, 50, 51, 52, 53, 54, 55, 56, 57, 58, 47] : List Int).getD (z % 12).toNat 0
def okLet (zs : List Int) : Bool := zs.all fun z => decide (z % 10 < 6)
def okDig (zs : List Int) : Bool := zs.all fun z => decide (z % 12 < 10)

theorem letIdx (z : Int) (h : (z % 10).toNat < ByteArray.size ⟨#[65, 90, 89, 83, 70, 76, 64, 91, 97, 32]⟩) : (((⟨#[65, 90, 89, 83, 70, 76, 64, 91, 97, 32]⟩ : ByteArray)[(z % 10).toNat]'h).toNat : Int) = letOf z := by
  unfold letOf
  generalize (z % 10).toNat = k at h ⊢
  have hk : k < 10 := h
  match k, hk with
  | 0, _ => rfl
  | 1, _ => rfl
  | 2, _ => rfl
  | 3, _ => rfl
  | 4, _ => rfl
  | 5, _ => rfl
  | 6, _ => rfl
  | 7, _ => rfl
  | 8, _ => rfl
  | 9, _ => rfl
theorem digIdx (z : Int) (h : (z % 12).toNat < ByteArray.size ⟨#[48, 49, 50, 51, 52, 53, 54, 55, 56, 57, 58, 47]⟩) : (((⟨#[48, 49, 50, 51, 52, 53, 54, 55, 56, 57, 58, 47]⟩ : ByteArray)[(z % 12).toNat]'h).toNat : Int) = digOf z := by
  unfold digOf
  generalize (z % 12).toNat = k at h ⊢
  have hk : k < 12 := h
  match k, hk with
  | 0, _ => rfl
  | 1, _ => rfl
  | 2, _ => rfl
  | 3, _ => rfl
  | 4, _ => rfl
  | 5, _ => rfl
  | 6, _ => rfl
  | 7, _ => rfl
  | 8, _ => rfl
  | 9, _ => rfl
  | 10, _ => rfl
  | 11, _ => rfl
theorem okLet_snoc (zs : List Int) (j : Nat) (z : Int) (h : zs[j]? = some z) : okLet (zs.take (j + 1)) = (okLet (zs.take j) && decide (z % 10 < 6)) := by
  rw [List.take_add_one, h]; simp [okLet]
theorem okDig_snoc (zs : List Int) (j : Nat) (z : Int) (h : zs[j]? = some z) : okDig (zs.take (j + 1)) = (okDig (zs.take j) && decide (z % 12 < 10)) := by
  rw [List.take_add_one, h]; simp [okDig]
theorem at_map {α : Type} {zs : List Int} {j : Nat} {z : Int} (f : Int → α) (h : zs[j]? = some z) : (zs.map f)[j]? = some (f z) := by rw [List.getElem?_map, h]; rfl

theorem range10 (z : Int) : z % 10 = 0 ∨ z % 10 = 1 ∨ z % 10 = 2 ∨ z % 10 = 3 ∨ z % 10 = 4 ∨ z % 10 = 5 ∨ z % 10 = 6 ∨ z % 10 = 7 ∨ z % 10 = 8 ∨ z % 10 = 9 := by omega
theorem range12 (z : Int) : z % 12 = 0 ∨ z % 12 = 1 ∨ z % 12 = 2 ∨ z % 12 = 3 ∨ z % 12 = 4 ∨ z % 12 = 5 ∨ z % 12 = 6 ∨ z % 12 = 7 ∨ z % 12 = 8 ∨ z % 12 = 9 ∨ z % 12 = 10 ∨ z % 12 = 11 := by omega
theorem cap_let (z : Int) : cap (UInt8.ofNat (letOf z).toNat) = decide (z % 10 < 6) := by
  unfold letOf
  rcases range10 z with h | h | h | h | h | h | h | h | h | h <;> rw [h] <;> rfl
theorem dig_dig (z : Int) : dig (UInt8.ofNat (digOf z).toNat) = decide (z % 12 < 10) := by
  unfold digOf
  rcases range12 z with h | h | h | h | h | h | h | h | h | h | h | h <;> rw [h] <;> rfl
theorem val_dig (z : Int) (hz : z % 12 < 10) : ((UInt8.ofNat (digOf z).toNat).toNat : Int) - 48 = z % 12 := by
  unfold digOf
  rcases range12 z with h | h | h | h | h | h | h | h | h | h | h | h
  all_goals first | omega | (rw [h]; rfl)

/-- The text that the law builds. -/
def built (az tz : List Int) : ByteArray := strOfNums (az.map letOf ++ tz.map digOf)
theorem built_size (az tz : List Int) (ha : az.length = 4) (ht : tz.length = 4) : (built az tz).size = 8 := by
  unfold built; rw [strOfNums_size]; simp [ha, ht]
theorem built_caps (az tz : List Int) (ha : az.length = 4) : capL ((built az tz).data.toList.take 4) = okLet az := by
  unfold built
  rw [strOfNums_data, List.map_append, List.take_append_of_le_length (by simp [ha]), List.take_of_length_le (by simp [ha])]
  unfold capL okLet
  rw [List.all_map, List.all_map]
  congr 1
  funext z
  exact cap_let z
theorem built_time (az : List Int) (t0 t1 t2 t3 : Int) (ha : az.length = 4) : timeB ((built az [t0, t1, t2, t3]).data.toList.drop 4) = (okDig [t0, t1, t2, t3] && decide (t0 % 12 * 10 + t1 % 12 ≤ 23) && decide (t2 % 12 * 10 + t3 % 12 ≤ 59)) := by
  unfold built
  rw [strOfNums_data, List.map_append, List.drop_append, List.drop_eq_nil_of_le (by simp [ha])]
  simp only [List.length_map, ha, Nat.sub_self, List.drop_zero, List.nil_append, List.map_cons, List.map_nil]
  rw [time4, dig_dig, dig_dig, dig_dig, dig_dig]
  simp only [okDig, List.all_cons, List.all_nil, Bool.and_true]
  by_cases h0 : t0 % 12 < 10
  · by_cases h1 : t1 % 12 < 10
    · by_cases h2 : t2 % 12 < 10
      · by_cases h3 : t3 % 12 < 10
        · rw [val_dig _ h0, val_dig _ h1, val_dig _ h2, val_dig _ h3]
          simp [h0, h1, h2, h3]
        · simp [h3]
      · simp [h2]
    · simp [h1]
  · simp [h0]

set_option maxRecDepth 20000 in
set_option maxHeartbeats 1000000 in
theorem built_walk (F : Interp) (az tz : List Int) (w : World) (hF : F.answers w.tape) (ha : az.length = 4) (ht : tz.length = 4) (ra : ∀ z ∈ az, 0 ≤ z ∧ z ≤ 255) (rt : ∀ z ∈ tz, 0 ≤ z ∧ z ≤ 255) :
    Calls Ybaf.prog 4 #[.agg (az.map (Value.int .u8)).toArray, .agg (tz.map (Value.int .u8)).toArray] w fun e w' => e = .returned (.bool true) ∧ Keep [] w w' := by
  obtain ⟨i0, hi, hz0, hz1, hz2⟩ := info_parts info5
  match az, tz, ha, ht with
  | [x0, x1, x2, x3], [y0, y1, y2, y3], ha, ht =>
  go_enter Ybaf.func4, Ybaf.ntmps4
  go_wp2_with (at_make; refine halt ?_)
  refine unhalt ?_
  have hA0 : Blk ((w.alloc (.cells #[.int .u8 x0, .int .u8 x1, .int .u8 x2, .int .u8 x3] 31)).alloc (.cells #[.int .u8 y0, .int .u8 y1, .int .u8 y2, .int .u8 y3] 31)) w.heap.size 31 ([x0, x1, x2, x3].map (Value.int .u8)) := (Blk.new w _ 31).alloc _
  have hT0 : Blk ((w.alloc (.cells #[.int .u8 x0, .int .u8 x1, .int .u8 x2, .int .u8 x3] 31)).alloc (.cells #[.int .u8 y0, .int .u8 y1, .int .u8 y2, .int .u8 y3] 31)) (w.heap.size + 1) 31 ([y0, y1, y2, y3].map (Value.int .u8)) := Blk.new' (w.alloc _) _ 31 _ (by simp)
  have k0 : Keep [] w ((w.alloc (.cells #[.int .u8 x0, .int .u8 x1, .int .u8 x2, .int .u8 x3] 31)).alloc (.cells #[.int .u8 y0, .int .u8 y1, .int .u8 y2, .int .u8 y3] 31)) := ((Keep.refl [] w).alloc _).alloc _
  have hs0 : w.heap.size + 2 ≤ ((w.alloc (.cells #[.int .u8 x0, .int .u8 x1, .int .u8 x2, .int .u8 x3] 31)).alloc (.cells #[.int .u8 y0, .int .u8 y1, .int .u8 y2, .int .u8 y3] 31)).heap.size := by simp
  generalize ((w.alloc (.cells #[.int .u8 x0, .int .u8 x1, .int .u8 x2, .int .u8 x3] 31)).alloc (.cells #[.int .u8 y0, .int .u8 y1, .int .u8 y2, .int .u8 y3] 31)) = w0 at hA0 hT0 k0 hs0 ⊢
  generalize hazz : [x0, x1, x2, x3] = az at *
  generalize htzz : [y0, y1, y2, y3] = tz at *
  clear hazz htzz
  refine wpList_mk _ rfl (.const (.int .i64 8)) (.const (.int .i64 8)) 32 rfl 5 i0 (.int .u8 0) Ybaf.underlying32 hi hz0 hz1 rfl .i64 .i64 _ _ 8 8 rfl rfl rfl rfl (by omega) (by rw [hz2]; omega) (by unfold maxLen; omega) ?_
  intro w1 hB1 hg1 hs1
  have k1 := k0.grown hg1 (by simp)
  have hA1 := hA0.kept hg1 (by simp)
  have hT1 := hT0.kept hg1 (by simp)
  have hs1' : w0.heap.size < w1.heap.size := by omega
  generalize w0.heap.size = B at hs0 hB1 hs1' hs1 ⊢
  clear hg1 hs1 hA0 hT0 k0 w0
  go_wp2
  go_loopw [6, 7] (fun v i wr => ∃ j : Nat, j ≤ 4 ∧ i = .int .i64 j ∧ v = .bool (okLet (az.take j)) ∧ Blk wr B 5 (fill (az.map fun z => Value.int .u8 (letOf z)) (.int .u8 0) 8 j) ∧ Blk wr w.heap.size 31 (az.map (Value.int .u8)) ∧ Blk wr (w.heap.size + 1) 31 (tz.map (Value.int .u8)) ∧ Keep [] w wr) (fun _ i _ => 4 - (intOf i).toNat)
  case atStart => exact ⟨0, Nat.zero_le _, rfl, rfl, hB1, hA1, hT1, k1⟩
  case round =>
    obtain ⟨j, hj, rfl, rfl, hBr, hAr, hTr, kr⟩ := hrel
    clear hB1 hA1 hT1 k1 w1 hs1'
    by_cases hlt : j < 4
    · obtain ⟨z, hz⟩ : ∃ z, az[j]? = some z := ⟨az[j]'(by omega), List.getElem?_eq_getElem (by omega)⟩
      have cA : wr.cell? ⟨w.heap.size, j, none⟩ = some (.int .u8 z) := (hAr.cell j).trans (by rw [List.getElem?_map, hz]; rfl)
      have hzb := ra z (List.mem_of_getElem? hz)
      have cB := hBr.cell j
      have fB := hBr.free j
      rw [List.getElem?_eq_getElem (by rw [fill_len _ _ _ _ (by omega) (by simp; omega)]; omega)] at cB
      have HZ := unhalt hz
      have HO := unhalt (okLet_snoc az j z hz)
      clear hz
      by_cases h6 : z % 10 < 6
      · have d6 : decide (z % 10 < 6) = true := decide_eq_true h6
        rw [d6, Bool.and_true] at HO
        clear d6
        go_wp2
        go_roundw
        case rel => exact ⟨j + 1, by omega, by go_num, by rw [HO.out], (hBr.set j _).cast (fill_set _ _ _ 8 j (by rw [letIdx]; exact at_map _ HZ.out) (by omega)), hAr.set_other _ _ (by simp; omega), hTr.set_other _ _ (by simp; omega), kr.setCell _ _ (by simp; omega)⟩
        case measure => simp [intOf]; omega
      · have d6 : decide (z % 10 < 6) = false := decide_eq_false h6
        rw [d6, Bool.and_false] at HO
        clear d6
        go_wp2
        go_roundw
        case rel => exact ⟨j + 1, by omega, by go_num, by rw [HO.out], (hBr.set j _).cast (fill_set _ _ _ 8 j (by rw [letIdx]; exact at_map _ HZ.out) (by omega)), hAr.set_other _ _ (by simp; omega), hTr.set_other _ _ (by simp; omega), kr.setCell _ _ (by simp; omega)⟩
        case measure => simp [intOf]; omega
    · have HJ : Hid (j = 4) := show j = 4 by omega
      go_wp2
      have HL : Hid (okLet (az.take j) = okLet az) := by rw [HJ.out, List.take_of_length_le (by omega)]; rfl
      rw [HL.out]
      have lB := hBr.lt
      have hV2 : Blk (wr.alloc (.cells #[.int .i64 0, .int .i64 0, .int .i64 0, .int .i64 0] 33)) wr.heap.size 33 (fill (tz.map fun z => Value.int .i64 (z % 12)) (.int .i64 0) 4 0) := Blk.new wr _ 33
      have hB2 : Blk (wr.alloc (.cells #[.int .i64 0, .int .i64 0, .int .i64 0, .int .i64 0] 33)) B 5 (fill ((az.map fun z => Value.int .u8 (letOf z)) ++ (tz.map fun z => Value.int .u8 (digOf z))) (.int .u8 0) 8 (4 + 0)) := (hBr.alloc _).cast (by rw [HJ.out]; unfold fill; rw [List.take_append_of_le_length (by simp; omega)])
      have hT2 := hTr.alloc (.cells #[.int .i64 0, .int .i64 0, .int .i64 0, .int .i64 0] 33)
      have k2 := kr.alloc (.cells #[.int .i64 0, .int .i64 0, .int .i64 0, .int .i64 0] 33)
      generalize wr.alloc (.cells #[.int .i64 0, .int .i64 0, .int .i64 0, .int .i64 0] 33) = w2 at hV2 hB2 hT2 k2 ⊢
      generalize wr.heap.size = V at hV2 lB ⊢
      clear hBr hAr hTr kr
      go_loopw [9, 11] (fun v i wr => ∃ j : Nat, j ≤ 4 ∧ i = .int .i64 j ∧ v = .bool (okDig (tz.take j)) ∧ Blk wr V 33 (fill (tz.map fun z => Value.int .i64 (z % 12)) (.int .i64 0) 4 j) ∧ Blk wr B 5 (fill ((az.map fun z => Value.int .u8 (letOf z)) ++ (tz.map fun z => Value.int .u8 (digOf z))) (.int .u8 0) 8 (4 + j)) ∧ Blk wr (w.heap.size + 1) 31 (tz.map (Value.int .u8)) ∧ Keep [] w wr) (fun _ i _ => 4 - (intOf i).toNat)
      case atStart => exact ⟨0, Nat.zero_le _, rfl, rfl, hV2, hB2, hT2, k2⟩
      case round =>
        obtain ⟨i, hj, rfl, rfl, hVr, hBr, hTr, kr⟩ := hrel
        clear hV2 hB2 hT2 k2 w2
        by_cases hlt : i < 4
        · obtain ⟨z, hz⟩ : ∃ z, tz[i]? = some z := ⟨tz[i]'(by omega), List.getElem?_eq_getElem (by omega)⟩
          have cT : wr.cell? ⟨w.heap.size + 1, i, none⟩ = some (.int .u8 z) := (hTr.cell i).trans (at_map _ hz)
          have hzb := rt z (List.mem_of_getElem? hz)
          have cB := hBr.cell (4 + i)
          have fB := hBr.free (4 + i)
          have cV := hVr.cell i
          have fV := hVr.free i
          rw [List.getElem?_eq_getElem (by rw [fill_len _ _ _ _ (by omega) (by simp; omega)]; omega)] at cB
          rw [List.getElem?_eq_getElem (by rw [fill_len _ _ _ _ (by omega) (by simp; omega)]; omega)] at cV
          have HZ := unhalt hz
          have HO := unhalt (okDig_snoc tz i z hz)
          have HB := unhalt (show ((az.map fun z => Value.int .u8 (letOf z)) ++ (tz.map fun z => Value.int .u8 (digOf z)))[4 + i]? = some (.int .u8 (digOf z)) by rw [List.getElem?_append_right (by simp; omega)]; simp only [List.length_map, ha]; rw [show 4 + i - 4 = i from by omega]; exact at_map _ hz)
          clear hz
          have i1 : (0 : Int) ≤ 4 + (i : Int) := by omega
          have i2 : (4 : Int) + (i : Int) < 8 := by omega
          have hVB : ¬ V = B := by omega
          by_cases h10 : z % 12 < 10
          · have d6 : decide (z % 12 < 10) = true := decide_eq_true h10
            rw [d6, Bool.and_true] at HO
            clear d6
            go_wp2
            go_roundw
            case rel =>
              rw [digIdx]
              exact ⟨i + 1, by omega, by go_num, by rw [HO.out], ((hVr.set i (.int .i64 (z % 12))).set_other ⟨B, 4 + i, none⟩ (.int .u8 (digOf z)) (by simp; omega)).cast (fill_set _ _ _ 4 i (at_map _ HZ.out) (by omega)), ((hBr.set_other ⟨V, i, none⟩ (.int .i64 (z % 12)) (by simp; omega)).set (4 + i) _).cast (fill_set _ _ _ 8 (4 + i) HB.out (by omega)), (hTr.set_other _ _ (by simp; omega)).set_other _ _ (by simp; omega), (kr.setCell _ _ (by simp; omega)).setCell _ _ (by simp; omega)⟩
            case measure => simp [intOf]; omega
          · have d6 : decide (z % 12 < 10) = false := decide_eq_false h10
            rw [d6, Bool.and_false] at HO
            clear d6
            go_wp2
            go_roundw
            case rel =>
              rw [digIdx]
              exact ⟨i + 1, by omega, by go_num, by rw [HO.out], ((hVr.set i (.int .i64 (z % 12))).set_other ⟨B, 4 + i, none⟩ (.int .u8 (digOf z)) (by simp; omega)).cast (fill_set _ _ _ 4 i (at_map _ HZ.out) (by omega)), ((hBr.set_other ⟨V, i, none⟩ (.int .i64 (z % 12)) (by simp; omega)).set (4 + i) _).cast (fill_set _ _ _ 8 (4 + i) HB.out (by omega)), (hTr.set_other _ _ (by simp; omega)).set_other _ _ (by simp; omega), (kr.setCell _ _ (by simp; omega)).setCell _ _ (by simp; omega)⟩
            case measure => simp [intOf]; omega
        · have HI : Hid (i = 4) := show i = 4 by omega
          have HT : Hid (okDig (tz.take i) = okDig tz) := by rw [HI.out, List.take_of_length_le (by omega)]; rfl
          have hcells : ∀ q, q < 8 → wr.cell? ⟨B, 0 + q, none⟩ = some (.int .u8 ((az.map letOf ++ tz.map digOf).getD q 0)) := by
            intro q hq
            rw [Nat.zero_add, hBr.cell q, HI.out]
            unfold fill
            rw [List.take_of_length_le (by simp; omega)]
            have hq' : q < (az.map letOf ++ tz.map digOf).length := by simp; omega
            have e : ((az.map fun z => Value.int .u8 (letOf z)) ++ (tz.map fun z => Value.int .u8 (digOf z))) = (az.map letOf ++ tz.map digOf).map (Value.int .u8) := by rw [List.map_append, List.map_map, List.map_map]; rfl
            rw [e, List.getElem?_append_left (by simpa using hq'), List.getElem?_map, List.getElem?_eq_getElem hq']
            simp [List.getD, List.getElem?_eq_getElem hq']
          have hconv := run_convert_bytes_arg (P := Ybaf.prog) wr 32 5 Ybaf.underlying32 Ybaf.underlying5 B 0 8 8 (az.map letOf ++ tz.map digOf) (by simp; omega) hcells 9 Ybaf.underlying9
          clear hcells
          have HS := unhalt (built_size az tz ha ht)
          have HC := unhalt (built_caps az tz ha)
          have hFr : F.answers wr.tape := by rw [kr.tape]; exact hF
          rw [show strOfNums (az.map letOf ++ tz.map digOf) = built az tz from rfl] at hconv
          rw [HT.out]
          obtain ⟨t0, t1, t2, t3, htz⟩ : ∃ t0 t1 t2 t3, tz = [t0, t1, t2, t3] := by
            match tz, ht with
            | [a, b, c, d], _ => exact ⟨a, b, c, d, rfl⟩
          subst htz
          have HB := unhalt (built_time az t0 t1 t2 t3 ha)
          have v0 := (hVr.cell 0)
          have v1 := (hVr.cell 1)
          have v2 := (hVr.cell 2)
          have v3 := (hVr.cell 3)
          rw [HI.out] at v0 v1 v2 v3
          simp [fill] at v0 v1 v2 v3
          generalize built az [t0, t1, t2, t3] = s at hconv HS HC HB ⊢
          have s1 : s.size ≤ 8 := by rw [HS.out]; omega
          have s2 : 8 ≤ s.size := by rw [HS.out]; omega
          have r0 := rt t0 (by simp)
          have r1 := rt t1 (by simp)
          have r2 := rt t2 (by simp)
          have r3 := rt t3 (by simp)
          clear ra rt hBr hVr hTr HT
          cases hl : okLet az
          · have HR := unhalt (read_bad F s wr hFr HS.out (by rw [HC.out, hl]))
            clear HC HB
            go_wp2_with (go_at_call 5; refine halt ?_)
            refine unhalt ?_
            refine HR.out.mono ?_
            rintro e w3 ⟨⟨p, rfl⟩, k3⟩
            have k4 := kr.trans k3 (by simp)
            clear HR k3 kr hconv
            go_wp2
            go_ret
            exact ⟨rfl, k4.alloc _⟩
          · cases hd : okDig [t0, t1, t2, t3]
            · have HR := unhalt (read_time F s wr hFr HS.out (by rw [HC.out, hl]) false (by rw [HB.out]; simp [hd]))
              rw [HS.out] at HR
              clear HC HB
              go_wp2_with (go_at_call 5; refine halt ?_)
              refine unhalt ?_
              refine HR.out.mono ?_
              rintro e w3 ⟨⟨ev, rfl, p, rfl⟩, k3⟩
              have k4 := kr.trans k3 (by simp)
              have q0 := k3.cell v0 (by simp)
              have q1 := k3.cell v1 (by simp)
              have q2 := k3.cell v2 (by simp)
              have q3 := k3.cell v3 (by simp)
              clear HR k3 kr hconv v0 v1 v2 v3
              have lV : V < w3.heap.size := block_lt_of_cell q0
              have j1 : (4 : Int) ≤ (s.size : Int) := by omega
              have j2 : (8 : Int) ≤ (s.size : Int) := by omega
              go_wp2
              go_quiet (fail)
              go_wp2
              go_ret
              exact ⟨rfl, (k4.alloc _).drewN _⟩
            · by_cases h23 : t0 % 12 * 10 + t1 % 12 ≤ 23
              · by_cases h59 : t2 % 12 * 10 + t3 % 12 ≤ 59
                · have HR := unhalt (read_time F s wr hFr HS.out (by rw [HC.out, hl]) true (by rw [HB.out]; simp [hd, h23, h59]))
                  rw [HS.out] at HR
                  clear HC HB
                  go_wp2_with (go_at_call 5; refine halt ?_)
                  refine unhalt ?_
                  refine HR.out.mono ?_
                  rintro e w3 ⟨⟨ev, rfl, rfl⟩, k3⟩
                  have k4 := kr.trans k3 (by simp)
                  have q0 := k3.cell v0 (by simp)
                  have q1 := k3.cell v1 (by simp)
                  have q2 := k3.cell v2 (by simp)
                  have q3 := k3.cell v3 (by simp)
                  clear HR k3 kr hconv v0 v1 v2 v3
                  have lV : V < w3.heap.size := block_lt_of_cell q0
                  have j1 : (4 : Int) ≤ (s.size : Int) := by omega
                  have j2 : (8 : Int) ≤ (s.size : Int) := by omega
                  go_wp2
                  go_quiet (fail)
                  go_wp2
                  go_ret
                  exact ⟨rfl, (k4.alloc _).drewN _⟩

                · have HR := unhalt (read_time F s wr hFr HS.out (by rw [HC.out, hl]) false (by rw [HB.out]; simp [h59]))
                  rw [HS.out] at HR
                  clear HC HB
                  go_wp2_with (go_at_call 5; refine halt ?_)
                  refine unhalt ?_
                  refine HR.out.mono ?_
                  rintro e w3 ⟨⟨ev, rfl, p, rfl⟩, k3⟩
                  have k4 := kr.trans k3 (by simp)
                  have q0 := k3.cell v0 (by simp)
                  have q1 := k3.cell v1 (by simp)
                  have q2 := k3.cell v2 (by simp)
                  have q3 := k3.cell v3 (by simp)
                  clear HR k3 kr hconv v0 v1 v2 v3
                  have lV : V < w3.heap.size := block_lt_of_cell q0
                  have j1 : (4 : Int) ≤ (s.size : Int) := by omega
                  have j2 : (8 : Int) ≤ (s.size : Int) := by omega
                  go_wp2
                  go_quiet (fail)
                  go_wp2
                  go_ret
                  exact ⟨by show Ending.returned (Value.bool !decide (t2 % 12 * 10 + t3 % 12 ≤ 59)) = _; rw [decide_eq_false (by omega)]; rfl, (k4.alloc _).drewN _⟩

              · have HR := unhalt (read_time F s wr hFr HS.out (by rw [HC.out, hl]) false (by rw [HB.out]; simp [h23]))
                rw [HS.out] at HR
                clear HC HB
                go_wp2_with (go_at_call 5; refine halt ?_)
                refine unhalt ?_
                refine HR.out.mono ?_
                rintro e w3 ⟨⟨ev, rfl, p, rfl⟩, k3⟩
                have k4 := kr.trans k3 (by simp)
                have q0 := k3.cell v0 (by simp)
                have q1 := k3.cell v1 (by simp)
                have q2 := k3.cell v2 (by simp)
                have q3 := k3.cell v3 (by simp)
                clear HR k3 kr hconv v0 v1 v2 v3
                have lV : V < w3.heap.size := block_lt_of_cell q0
                have j1 : (4 : Int) ≤ (s.size : Int) := by omega
                have j2 : (8 : Int) ≤ (s.size : Int) := by omega
                go_wp2
                go_quiet (fail)
                go_wp2
                go_ret
                exact ⟨rfl, (k4.alloc _).drewN _⟩
end Go.Proofs.YbulkdfxoFmt
