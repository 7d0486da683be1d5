import Derived.Test.YbulkdfzeFrame
namespace Go.Proofs.Ybulkdfze
open Go Go.RowKit Go.Lib Go.Shelf
set_option maxRecDepth 20000 in
set_option maxHeartbeats 1000000 in
/-- slices.Equal of bytes, at lists of one length. -/
theorem equal_bytes2 (ao bo : Option Addr) (n c c' : Nat) (zs ys : List Int) (w : World) (hn : n ≤ 1000) (hr : Rd w ao (zs.map (Value.int .u8))) (hr2 : Rd w bo (ys.map (Value.int .u8))) (ls : zs.length = n) (ls2 : ys.length = n) :
    Calls Yba.prog 10 #[.slice ao n c, .slice bo n c'] w fun e w' => e = .returned (.bool (decide (zs = ys))) ∧ Keep [] w w' := by
  go_enter Yba.func10, Yba.ntmps10
  go_wp2
  go_loopw [13] (fun v wr => ∃ j : Nat, j ≤ n ∧ v = .int .i64 j ∧ Keep [] w wr ∧ Hid (∀ i, i < j → zs[i]? = ys[i]?)) (fun v _ => n - (intOf v).toNat)
  case atStart => exact ⟨0, Nat.zero_le _, rfl, Keep.refl _ _, unhalt fun i hi => absurd hi (Nat.not_lt_zero i)⟩
  case round =>
    obtain ⟨j, hj, rfl, kr, HE⟩ := hrel
    by_cases hjn : j < n
    · obtain ⟨y, hy⟩ : ∃ y, zs[j]? = some y := ⟨zs[j]'(by omega), List.getElem?_eq_getElem (by omega)⟩
      obtain ⟨y2, hy2⟩ : ∃ y, ys[j]? = some y := ⟨ys[j]'(by omega), List.getElem?_eq_getElem (by omega)⟩
      obtain ⟨ad, rfl⟩ : ∃ ad, ao = some ad := by
        cases ao with
        | none => have := hr.1 rfl; simp at this; subst this; simp at hy
        | some ad => exact ⟨ad, rfl⟩
      obtain ⟨bd, rfl⟩ : ∃ ad, bo = some ad := by
        cases bo with
        | none => have := hr2.1 rfl; simp at this; subst this; simp at hy2
        | some ad => exact ⟨ad, rfl⟩
      have cy := kr.cell (hr.2 ad rfl j (.int .u8 y) (by rw [List.getElem?_map, hy]; rfl)) (by simp)
      have cy2 := kr.cell (hr2.2 bd rfl j (.int .u8 y2) (by rw [List.getElem?_map, hy2]; rfl)) (by simp)
      have HY := unhalt (⟨hy, hy2⟩ : _ ∧ _)
      clear hy hy2
      go_wp2
      go_quiet (fail)
      have k2 := kr.drewN nq
      by_cases hq : y = y2
      · subst hq
        have HJ : Hid (∀ i, i < j + 1 → zs[i]? = ys[i]?) := unhalt fun i hi => by
          by_cases h : i < j
          · exact HE.out i h
          · obtain rfl : i = j := by omega
            rw [HY.out.1, HY.out.2]
        clear HE HY
        go_wp2
        go_roundw
        case rel => exact ⟨j + 1, by omega, by go_num, k2, HJ⟩
        case measure => simp [intOf]; omega
      · have hqb : (y == y2) = false := by simpa using hq
        have HD : Hid (decide (zs = ys) = false) := unhalt (decide_eq_false fun e => hq (by
          have h1 := HY.out.1
          rw [e, HY.out.2] at h1
          exact (Option.some.inj h1).symm))
        clear HE HY
        go_wp2
        exact bodyPost_ret (v := .bool false) (by simp [results, Yba.results10, go_sem]) rfl ⟨by rw [HD.out], k2⟩
    · have HD : Hid (decide (zs = ys) = true) := unhalt (decide_eq_true (List.ext_getElem? fun i => by
        by_cases h : i < j
        · exact HE.out i h
        · rw [List.getElem?_eq_none (by omega), List.getElem?_eq_none (by omega)]))
      clear HE
      go_wp2
      exact bodyPost_ret (v := .bool true) (by simp [results, Yba.results10, go_sem]) rfl ⟨by rw [HD.out], kr⟩
end Go.Proofs.Ybulkdfze
