import Derived.Test.YbulkdfxoFmtRead
namespace Go.Proofs.YbulkdfxoFmt
open Go Go.RowKit

theorem list8 (s : ByteArray) (hs : s.size = 8) : s.data.toList.drop 4 = [s[4], s[5], s[6], s[7]] := by
  obtain ⟨⟨l⟩⟩ := s
  match l, hs with
  | [_, _, _, _, _, _, _, _], _ => rfl

theorem time4 (a b c d : UInt8) : timeB [a, b, c, d] = (dig a && dig b && dig c && dig d && decide (((a.toNat : Int) - 48) * 10 + ((b.toNat : Int) - 48) ≤ 23) && decide (((c.toNat : Int) - 48) * 10 + ((d.toNat : Int) - 48) ≤ 59)) := by
  simp only [timeB, minOK, digL, numV, List.take_succ_cons, List.take_zero, List.drop_succ_cons, List.drop_zero, List.all_cons, List.all_nil, List.foldl_cons, List.foldl_nil]
  cases ha : dig a <;> cases hb : dig b <;> cases hc : dig c <;> cases hd : dig d <;> simp
  simp [dig] at ha hb hc hd
  rw [Bool.eq_iff_iff]
  simp
  omega

theorem time_hit (s : ByteArray) (hs : s.size = 8) (k : Nat) (hk : k < s.size) (h4 : 4 ≤ k) (h : dig s[k] = false) : timeB (s.data.toList.drop 4) = false := by
  rw [list8 s hs, time4]
  have : k = 4 ∨ k = 5 ∨ k = 6 ∨ k = 7 := by omega
  rcases this with rfl | rfl | rfl | rfl <;> simp [h]

theorem expect_long (s : ByteArray) (w : World) (hs : s.size ≠ 8) :
    Calls Ybaf.prog 6 #[.string s] w fun e w' => e = .returned (.tuple #[.agg #[.string ⟨#[]⟩, .string ⟨#[]⟩, .string ⟨#[]⟩], .bool false]) ∧ Keep [] w w' := by
  have h8 : ((s.size : Int) != 8) = true := by rw [bne_iff_ne]; omega
  go_enter Ybaf.func6, Ybaf.ntmps6
  go_wp2
  exact bodyPost_ret (v := .tuple #[.agg #[.string ⟨#[]⟩, .string ⟨#[]⟩, .string ⟨#[]⟩], .bool false]) (by simp [results, Ybaf.results6, go_sem]) rfl ⟨rfl, (Keep.refl [] w).alloc _⟩

/-- What the law's own reading gives at eight bytes. -/
def ExpOut (s : ByteArray) (e : Ending) : Prop :=
  bif capL (s.data.toList.take 4) then e = .returned (.tuple #[.agg #[.string s, .string (s.extract 0 4), .string (s.extract 4 8)], .bool (timeB (s.data.toList.drop 4))])
  else e = .returned (.tuple #[.agg #[.string ⟨#[]⟩, .string ⟨#[]⟩, .string ⟨#[]⟩], .bool false])

theorem list4 (s : ByteArray) (hs : s.size = 8) : s.data.toList.take 4 = [s[0], s[1], s[2], s[3]] := by
  obtain ⟨⟨l⟩⟩ := s
  match l, hs with
  | [_, _, _, _, _, _, _, _], _ => rfl
theorem cap_hit (s : ByteArray) (hs : s.size = 8) (k : Nat) (hk : k < s.size) (h4 : k < 4) (h : cap s[k] = false) : capL (s.data.toList.take 4) = false := by
  rw [list4 s hs]
  have : k = 0 ∨ k = 1 ∨ k = 2 ∨ k = 3 := by omega
  rcases this with rfl | rfl | rfl | rfl <;> simp [capL, h]
theorem time_end (s : ByteArray) (hs : s.size = 8) (d4 : 48 ≤ (s[4].toNat : Int) ∧ (s[4].toNat : Int) ≤ 57) (d5 : 48 ≤ (s[5].toNat : Int) ∧ (s[5].toNat : Int) ≤ 57) (d6 : 48 ≤ (s[6].toNat : Int) ∧ (s[6].toNat : Int) ≤ 57) (d7 : 48 ≤ (s[7].toNat : Int) ∧ (s[7].toNat : Int) ≤ 57) :
    timeB (s.data.toList.drop 4) = (decide (((s[4].toNat : Int) - 48) * 10 + ((s[5].toNat : Int) - 48) ≤ 23) && decide (((s[6].toNat : Int) - 48) * 10 + ((s[7].toNat : Int) - 48) ≤ 59)) := by
  rw [list8 s hs, time4]
  have e : ∀ c : UInt8, 48 ≤ (c.toNat : Int) ∧ (c.toNat : Int) ≤ 57 → dig c = true := fun c h => by simp [dig]; omega
  rw [e _ d4, e _ d5, e _ d6, e _ d7]
  rfl

set_option maxRecDepth 20000 in
set_option maxHeartbeats 1000000 in
theorem expect_any (s : ByteArray) (w : World) (hs : s.size = 8) :
    Calls Ybaf.prog 6 #[.string s] w fun e w' => ExpOut s e ∧ Keep [] w w' := by
  have s1 : s.size ≤ 8 := by omega
  have s2 : 8 ≤ s.size := by omega
  have h8 : ((s.size : Int) != 8) = false := by rw [bne_eq_false_iff_eq]; omega
  have HS := unhalt hs
  clear hs
  go_enter Ybaf.func6, Ybaf.ntmps6
  go_wp2
  go_loop [4] (fun i => ∃ k : Nat, k ≤ 4 ∧ i = .int .i64 k ∧ Hid (capL (s.data.toList.take k) = true)) (fun i => 4 - (intOf i).toNat)
  case atStart => exact ⟨0, Nat.zero_le _, rfl, rfl⟩
  case round =>
    obtain ⟨k, hk, rfl, HK⟩ := hrel
    by_cases hlt : k < 4
    · have hks : k < s.size := by omega
      have hb : (s[k].toNat : Int) < 256 := by have := s[k].toNat_lt; omega
      by_cases h65 : (s[k].toNat : Int) < 65
      · have HF := unhalt (cap_hit s HS.out k hks hlt (by simp [cap]; omega))
        go_wp2
        exact bodyPost_ret (v := .tuple #[.agg #[.string ⟨#[]⟩, .string ⟨#[]⟩, .string ⟨#[]⟩], .bool false]) (by simp [results, Ybaf.results6, go_sem]) rfl ⟨by unfold ExpOut; rw [HF.out]; rfl, (Keep.refl [] w).alloc _⟩
      · by_cases h90 : 90 < (s[k].toNat : Int)
        · have HF := unhalt (cap_hit s HS.out k hks hlt (by simp [cap]; omega))
          go_wp2
          exact bodyPost_ret (v := .tuple #[.agg #[.string ⟨#[]⟩, .string ⟨#[]⟩, .string ⟨#[]⟩], .bool false]) (by simp [results, Ybaf.results6, go_sem]) rfl ⟨by unfold ExpOut; rw [HF.out]; rfl, (Keep.refl [] w).alloc _⟩
        · have HN := unhalt (all_snoc cap s k hks HK.out (by simp [cap]; omega))
          go_wp2
          go_round
          case rel => exact ⟨k + 1, by omega, by go_num, HN⟩
          case measure => simp [intOf]; omega
    · obtain rfl : k = 4 := by omega
      have i1 : (4 : Int) ≤ (s.size : Int) := by omega
      have i2 : (8 : Int) ≤ (s.size : Int) := by omega
      go_wp2
      go_region
      have hR0 : Blk ((w.alloc (.cells #[.string ⟨#[]⟩, .string ⟨#[]⟩, .string ⟨#[]⟩] 23)).alloc (.cells #[.string s, .string (s.extract 0 4), .string (s.extract 4 8)] 23)).drew w.heap.size 23 [.string ⟨#[]⟩, .string ⟨#[]⟩, .string ⟨#[]⟩] := ((Blk.new w _ 23).alloc _).drew
      have hP0 : Blk ((w.alloc (.cells #[.string ⟨#[]⟩, .string ⟨#[]⟩, .string ⟨#[]⟩] 23)).alloc (.cells #[.string s, .string (s.extract 0 4), .string (s.extract 4 8)] 23)).drew (w.heap.size + 1) 23 [.string s, .string (s.extract 0 4), .string (s.extract 4 8)] := (Blk.new' (w.alloc _) _ 23 _ (by simp)).drew
      have k0 : Keep [] w ((w.alloc (.cells #[.string ⟨#[]⟩, .string ⟨#[]⟩, .string ⟨#[]⟩] 23)).alloc (.cells #[.string s, .string (s.extract 0 4), .string (s.extract 4 8)] 23)).drew := (((Keep.refl [] w).alloc _).alloc _).drew
      generalize ((w.alloc (.cells #[.string ⟨#[]⟩, .string ⟨#[]⟩, .string ⟨#[]⟩] 23)).alloc (.cells #[.string s, .string (s.extract 0 4), .string (s.extract 4 8)] 23)).drew = w2 at hR0 hP0 k0 ⊢
      have c0 := hR0.cell 0
      have c1 := hR0.cell 1
      have c2 := hR0.cell 2
      have f0 := hR0.free 0
      have f1 := hR0.free 1
      have f2 := hR0.free 2
      have p0 := hP0.cell 0
      have p1 := hP0.cell 1
      have p2 := hP0.cell 2
      simp at c0 c1 c2 p0 p1 p2
      go_wp2
      go_loop [7] (fun i => ∃ k : Nat, 4 ≤ k ∧ k ≤ 8 ∧ i = .int .i64 k ∧ Hid (∀ j (h : j < s.size), 4 ≤ j → j < k → 48 ≤ (s[j].toNat : Int) ∧ (s[j].toNat : Int) ≤ 57)) (fun i => 8 - (intOf i).toNat)
      case atStart => exact ⟨4, Nat.le_refl _, by omega, rfl, fun j _ h h' => absurd h' (by omega)⟩
      case round =>
        obtain ⟨k, hk4, hk, rfl, HD⟩ := hrel
        by_cases hlt : k < 8
        · have hks : k < s.size := by omega
          have hb : (s[k].toNat : Int) < 256 := by have := s[k].toNat_lt; omega
          by_cases h48 : (s[k].toNat : Int) < 48
          · have HF := unhalt (time_hit s HS.out k hks hk4 (by simp [dig]; omega))
            go_wp2
            exact bodyPost_ret (v := .tuple #[.agg #[.string s, .string (s.extract 0 4), .string (s.extract 4 8)], .bool false]) (by simp [results, Ybaf.results6, go_sem, c0, c1, c2]) rfl ⟨by unfold ExpOut; rw [HF.out, HK.out]; rfl, ((k0.setCell _ _ (by simp)).setCell _ _ (by simp)).setCell _ _ (by simp)⟩
          · by_cases h57 : 57 < (s[k].toNat : Int)
            · have HF := unhalt (time_hit s HS.out k hks hk4 (by simp [dig]; omega))
              go_wp2
              exact bodyPost_ret (v := .tuple #[.agg #[.string s, .string (s.extract 0 4), .string (s.extract 4 8)], .bool false]) (by simp [results, Ybaf.results6, go_sem, c0, c1, c2]) rfl ⟨by unfold ExpOut; rw [HF.out, HK.out]; rfl, ((k0.setCell _ _ (by simp)).setCell _ _ (by simp)).setCell _ _ (by simp)⟩
            · have HN : Hid (∀ j (h : j < s.size), 4 ≤ j → j < k + 1 → 48 ≤ (s[j].toNat : Int) ∧ (s[j].toNat : Int) ≤ 57) := by
                intro j hj h4 hk1
                by_cases hjk : j < k
                · exact HD.out j hj h4 hjk
                · obtain rfl : j = k := by omega
                  omega
              go_wp2
              go_round
              case rel => exact ⟨k + 1, by omega, by omega, by go_num, HN⟩
              case measure => simp [intOf]; omega
        · obtain rfl : k = 8 := by omega
          have d4 := HD.out 4 (by omega) (by omega) (by omega)
          have d5 := HD.out 5 (by omega) (by omega) (by omega)
          have d6 := HD.out 6 (by omega) (by omega) (by omega)
          have d7 := HD.out 7 (by omega) (by omega) (by omega)
          have HT := unhalt (time_end s HS.out d4 d5 d6 d7)
          have i4 : (4 : Int) < (s.size : Int) := by omega
          have i5 : (5 : Int) < (s.size : Int) := by omega
          have i6 : (6 : Int) < (s.size : Int) := by omega
          have i7 : (7 : Int) < (s.size : Int) := by omega
          go_wp2
          go_quiet (fail)
          go_wp2
          go_quiet (fail)
          go_wp2
          · have h23 : ((s[4].toNat : Int) - 48) * 10 + ((s[5].toNat : Int) - 48) ≤ 23 := by assumption
            have ht : timeB (s.data.toList.drop 4) = decide (((s[6].toNat : Int) - 48) * 10 + ((s[7].toNat : Int) - 48) ≤ 59) := by
              have h := HT.out
              rw [decide_eq_true (by exact h23)] at h
              exact h
            exact bodyPost_ret (v := .tuple #[.agg #[.string s, .string (s.extract 0 4), .string (s.extract 4 8)], .bool (decide (((s[6].toNat : Int) - 48) * 10 + ((s[7].toNat : Int) - 48) ≤ 59))]) (by simp [results, Ybaf.results6, go_sem, c0, c1, c2]) rfl ⟨by unfold ExpOut; rw [ht, HK.out]; rfl, (((k0.drewN _).setCell _ _ (by simp)).setCell _ _ (by simp)).setCell _ _ (by simp)⟩
          · have h23 : 23 < ((s[4].toNat : Int) - 48) * 10 + ((s[5].toNat : Int) - 48) := by assumption
            have ht : timeB (s.data.toList.drop 4) = false := by
              have h := HT.out
              rw [decide_eq_false (by exact Int.not_le.2 h23)] at h
              exact h
            exact bodyPost_ret (v := .tuple #[.agg #[.string s, .string (s.extract 0 4), .string (s.extract 4 8)], .bool false]) (by simp [results, Ybaf.results6, go_sem, c0, c1, c2]) rfl ⟨by unfold ExpOut; rw [ht, HK.out]; rfl, (((k0.drewN _).setCell _ _ (by simp)).setCell _ _ (by simp)).setCell _ _ (by simp)⟩
end Go.Proofs.YbulkdfxoFmt
