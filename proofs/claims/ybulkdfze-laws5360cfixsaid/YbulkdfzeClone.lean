import Derived.Test.YbulkdfzeEncode
import Derived.Laws.Cover3
import Derived.Laws.StructEq
namespace Go.Proofs.Ybulkdfze
open Go Go.RowKit Go.Lib

theorem eql_nil (t e : TypeId) (ad : Addr) (l c : Nat) (w : World) (h : Yba.prog.underlying t = some (.slice e)) : (binOp .eql t (.slice (some ad) l c) (.slice none 0 0)).run Yba.prog w = .ok (.bool false) w := by
  simp only [binOp]
  simp [run_equal_slice_nil w t e (some ad) l c h]

set_option maxRecDepth 20000 in
/-- slices.Clone of bytes. -/
theorem clone_bytes (ad : Addr) (m c : Nat) (zs : List Value) (w : World) (hm : m ≤ 1000) (hz : Rd w (some ad) zs) (lz : zs.length = m) (h1c : ∀ u ∈ zs, u.oneCell' = true) :
    Calls Yba.prog 6 #[.slice (some ad) m c] w fun e w' => ∃ g cap, e = .returned (.slice (some ⟨g, 0, none⟩) m cap) ∧ m ≤ cap ∧ Blk w' g 5 (zs ++ List.replicate (cap - m) (.int .u8 0)) ∧ w.heap.size ≤ g ∧ Keep [] w w' := by
  obtain ⟨i0, hi, hz0, hz1, hz2⟩ := info_parts info5
  have hq := eql_nil 46 5 ad m c w Yba.underlying46
  go_enter Yba.func6, Yba.ntmps6
  go_wp2_with (at_builtin; refine halt ?_)
  refine unhalt ?_
  refine wpList_app_clone _ rfl (.tmp 5) (.tmp 6) 46 rfl 5 i0 (.int .u8 0) Yba.underlying46 hi hz0 hz1 rfl w.heap.size rfl (Blk.new' _ _ _ _ rfl) (some ad) m c rfl zs (hz.alloc _) lz h1c (by rw [hz2]; omega) (by unfold maxLen; omega) ?_
  intro g cap w' hg hc hB hgr _
  have hk : Keep [] w w' := ((Keep.refl [] w).alloc _).grown hgr (by simp)
  have hg2 : w.heap.size ≤ g := by rcases hg with h | h <;> simp [h]
  clear hgr hg
  go_wp2
  exact bodyPost_ret (v := .slice (some ⟨g, 0, none⟩) m cap) (by simp [results, Yba.results6, go_sem]) rfl ⟨g, cap, rfl, hc, hB, hg2, hk⟩

set_option maxRecDepth 20000 in
/-- slices.Clone of strings. -/
theorem clone_strings (ad : Addr) (m c : Nat) (zs : List Value) (w : World) (hm : m ≤ 1000) (hz : Rd w (some ad) zs) (lz : zs.length = m) (h1c : ∀ u ∈ zs, u.oneCell' = true) :
    Calls Yba.prog 5 #[.slice (some ad) m c] w fun e w' => ∃ g cap, e = .returned (.slice (some ⟨g, 0, none⟩) m cap) ∧ m ≤ cap ∧ Blk w' g 9 (zs ++ List.replicate (cap - m) (.string ⟨#[]⟩)) ∧ w.heap.size ≤ g ∧ Keep [] w w' := by
  obtain ⟨i0, hi, hz0, hz1, hz2⟩ := info_parts info9
  have hq := eql_nil 29 9 ad m c w Yba.underlying29
  go_enter Yba.func5, Yba.ntmps5
  go_wp2_with (at_builtin; refine halt ?_)
  refine unhalt ?_
  refine wpList_app_clone _ rfl (.tmp 5) (.tmp 6) 29 rfl 9 i0 (.string ⟨#[]⟩) Yba.underlying29 hi hz0 hz1 rfl w.heap.size rfl (Blk.new' _ _ _ _ rfl) (some ad) m c rfl zs (hz.alloc _) lz h1c (by rw [hz2]; omega) (by unfold maxLen; omega) ?_
  intro g cap w' hg hc hB hgr _
  have hk : Keep [] w w' := ((Keep.refl [] w).alloc _).grown hgr (by simp)
  have hg2 : w.heap.size ≤ g := by rcases hg with h | h <;> simp [h]
  clear hgr hg
  go_wp2
  exact bodyPost_ret (v := .slice (some ⟨g, 0, none⟩) m cap) (by simp [results, Yba.results5, go_sem]) rfl ⟨g, cap, rfl, hc, hB, hg2, hk⟩

theorem bytes_ext {x y : ByteArray} (h : x.toList = y.toList) : x = y := by
  rw [ByteArray.toList_eq, ByteArray.toList_eq] at h
  cases x; cases y
  simp at h
  simp [h]

/-- slices.Index of strings. -/
theorem index_str (ao : Option Addr) (n c : Nat) (ss : List ByteArray) (x : ByteArray) (w : World) (hn : n ≤ 1000) (hr : Rd w ao (ss.map Value.string)) (ls : ss.length = n) :
    Calls Yba.prog 14 #[.slice ao n c, .string x] w fun e w' => w' = w ∧ ∃ z : Int, e = .returned (.int .i64 z) ∧ (0 ≤ z ↔ x ∈ ss) := by
  go_enter Yba.func14, Yba.ntmps14
  go_wp2
  go_loopw [8] (fun v wr => ∃ j : Nat, j ≤ n ∧ v = .int .i64 j ∧ Hid (∀ i, i < j → ss[i]? ≠ some x) ∧ wr = w) (fun v _ => n - (intOf v).toNat)
  case atStart => exact ⟨0, Nat.zero_le _, rfl, by intro i hi; omega, rfl⟩
  case round =>
    obtain ⟨j, hj, rfl, HI, rfl⟩ := hrel
    by_cases hjn : j < n
    · obtain ⟨y, hy⟩ : ∃ y, ss[j]? = some y := ⟨ss[j]'(by omega), List.getElem?_eq_getElem (by omega)⟩
      obtain ⟨ad, rfl⟩ : ∃ ad, ao = some ad := by
        cases ao with
        | none => have := hr.1 rfl; simp at this; subst this; simp at hy
        | some ad => exact ⟨ad, rfl⟩
      have cy := hr.2 ad rfl j (.string y) (by rw [List.getElem?_map, hy]; rfl)
      by_cases hxy : x = y
      · subst hxy
        have hm : x ∈ ss := List.mem_of_getElem? hy
        have HM := unhalt hm
        clear hy hm
        go_wp2
        refine bodyPost_ret (v := .int .i64 j) (by simp [results, Yba.results14, go_sem]) rfl ⟨rfl, j, rfl, by simp [HM.out]⟩
      · have q : (x.toList == y.toList) = false := beq_eq_false_iff_ne.2 fun e => hxy (bytes_ext e)
        have HJ : Hid (∀ i, i < j + 1 → ss[i]? ≠ some x) := by
          intro i hi
          by_cases hij : i = j
          · subst hij; rw [hy]; intro e; cases e; exact hxy rfl
          · exact HI.out i (by omega)
        clear HI hy hxy
        go_wp2
        go_roundw
        case rel => exact ⟨j + 1, by omega, by go_num, HJ, trivial⟩
        case measure => simp [intOf]; omega
    · have hm : x ∉ ss := by
        intro h
        obtain ⟨i, hi⟩ := List.mem_iff_getElem?.1 h
        exact HI.out i (by have := (List.getElem?_eq_some_iff.1 hi).1; omega) hi
      have HM := unhalt hm
      clear hm HI
      go_wp2
      refine bodyPost_ret (v := .int .i64 (-1)) (by simp [results, Yba.results14, go_sem]) rfl ⟨rfl, -1, rfl, by simp [HM.out]⟩

/-- slices.Contains of strings. -/
theorem contains_str (ao : Option Addr) (n c : Nat) (ss : List ByteArray) (x : ByteArray) (w : World) (hn : n ≤ 1000) (hr : Rd w ao (ss.map Value.string)) (ls : ss.length = n) :
    Calls Yba.prog 11 #[.slice ao n c, .string x] w fun e w' => w' = w ∧ ∃ b : Bool, e = .returned (.bool b) ∧ (b = true ↔ x ∈ ss) := by
  have HC := unhalt (index_str ao n c ss x w hn hr ls)
  go_enter Yba.func11, Yba.ntmps11
  go_wp2_with (go_at_call 14; refine halt ?_)
  refine unhalt ?_
  refine HC.out.mono ?_
  rintro e w1 ⟨rfl, z, rfl, hz⟩
  have HZ := unhalt hz
  clear hz HC
  go_wp2
  refine bodyPost_ret (v := .bool (decide (0 ≤ z))) (by simp [results, Yba.results11, go_sem]) rfl ⟨rfl, _, rfl, by rw [decide_eq_true_iff]; exact HZ.out⟩

/-- slices.Equal of strings, at equal lists. -/
theorem equal_strs (ao bo : Option Addr) (n c c' : Nat) (ss : List ByteArray) (w : World) (hn : n ≤ 1000) (hr : Rd w ao (ss.map Value.string)) (hr2 : Rd w bo (ss.map Value.string)) (ls : ss.length = n) :
    Calls Yba.prog 9 #[.slice ao n c, .slice bo n c'] w fun e w' => e = .returned (.bool true) ∧ Keep [] w w' := by
  go_enter Yba.func9, Yba.ntmps9
  go_wp2
  go_loopw [13] (fun v wr => ∃ j : Nat, j ≤ n ∧ v = .int .i64 j ∧ Keep [] w wr) (fun v _ => n - (intOf v).toNat)
  case atStart => exact ⟨0, Nat.zero_le _, rfl, Keep.refl _ _⟩
  case round =>
    obtain ⟨j, hj, rfl, kr⟩ := hrel
    by_cases hjn : j < n
    · obtain ⟨y, hy⟩ : ∃ y, ss[j]? = some y := ⟨ss[j]'(by omega), List.getElem?_eq_getElem (by omega)⟩
      obtain ⟨ad, rfl⟩ : ∃ ad, ao = some ad := by
        cases ao with
        | none => have := hr.1 rfl; simp at this; subst this; simp at hy
        | some ad => exact ⟨ad, rfl⟩
      obtain ⟨bd, rfl⟩ : ∃ ad, bo = some ad := by
        cases bo with
        | none => have := hr2.1 rfl; simp at this; subst this; simp at hy
        | some ad => exact ⟨ad, rfl⟩
      have cy := kr.cell (hr.2 ad rfl j (.string y) (by rw [List.getElem?_map, hy]; rfl)) (by simp)
      have cy2 := kr.cell (hr2.2 bd rfl j (.string y) (by rw [List.getElem?_map, hy]; rfl)) (by simp)
      clear hy
      go_wp2
      go_quiet (fail)
      have k2 := kr.drewN nq
      go_wp2
      go_roundw
      case rel => exact ⟨j + 1, by omega, by go_num, k2⟩
      case measure => simp [intOf]; omega
    · go_wp2
      exact bodyPost_ret (v := .bool true) (by simp [results, Yba.results9, go_sem]) rfl ⟨rfl, kr⟩

/-- slices.Equal of bytes, at equal lists. -/
theorem equal_bytes (ao bo : Option Addr) (n c c' : Nat) (zs : List Int) (w : World) (hn : n ≤ 1000) (hr : Rd w ao (zs.map (Value.int .u8))) (hr2 : Rd w bo (zs.map (Value.int .u8))) (ls : zs.length = n) :
    Calls Yba.prog 10 #[.slice ao n c, .slice bo n c'] w fun e w' => e = .returned (.bool true) ∧ Keep [] w w' := by
  go_enter Yba.func10, Yba.ntmps10
  go_wp2
  go_loopw [13] (fun v wr => ∃ j : Nat, j ≤ n ∧ v = .int .i64 j ∧ Keep [] w wr) (fun v _ => n - (intOf v).toNat)
  case atStart => exact ⟨0, Nat.zero_le _, rfl, Keep.refl _ _⟩
  case round =>
    obtain ⟨j, hj, rfl, kr⟩ := hrel
    by_cases hjn : j < n
    · obtain ⟨y, hy⟩ : ∃ y, zs[j]? = some y := ⟨zs[j]'(by omega), List.getElem?_eq_getElem (by omega)⟩
      obtain ⟨ad, rfl⟩ : ∃ ad, ao = some ad := by
        cases ao with
        | none => have := hr.1 rfl; simp at this; subst this; simp at hy
        | some ad => exact ⟨ad, rfl⟩
      obtain ⟨bd, rfl⟩ : ∃ ad, bo = some ad := by
        cases bo with
        | none => have := hr2.1 rfl; simp at this; subst this; simp at hy
        | some ad => exact ⟨ad, rfl⟩
      have cy := kr.cell (hr.2 ad rfl j (.int .u8 y) (by rw [List.getElem?_map, hy]; rfl)) (by simp)
      have cy2 := kr.cell (hr2.2 bd rfl j (.int .u8 y) (by rw [List.getElem?_map, hy]; rfl)) (by simp)
      clear hy
      go_wp2
      go_quiet (fail)
      have k2 := kr.drewN nq
      go_wp2
      go_roundw
      case rel => exact ⟨j + 1, by omega, by go_num, k2⟩
      case measure => simp [intOf]; omega
    · go_wp2
      exact bodyPost_ret (v := .bool true) (by simp [results, Yba.results10, go_sem]) rfl ⟨rfl, kr⟩
end Go.Proofs.Ybulkdfze
