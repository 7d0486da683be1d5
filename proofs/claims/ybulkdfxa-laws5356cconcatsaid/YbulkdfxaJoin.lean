import Derived.Test.YbulkdfxaRows
import Derived.Test.YbulkdfxaBlocks
import Derived.Deep.DeepMust
import Derived.Deep.DeepFit
import Derived.Deep.QuietTactic
import Derived.BigQuiet
import Derived.WalkSpells
import Derived.LaidEql
namespace Go.Proofs.Ybulkdfxa
open Go Go.RowKit
theorem info3 : (Yba.prog.info? 3).map (fun i => (i.zero, i.size, i.bytes)) = some (some (.int .i64 0), 1, 8) := by kernel_rfl

/-- What 'join' leaves: xs followed by ys. -/
def JoinOut (w : World) (n : Nat) (bo : Option Addr) (m bcap : Nat) (xs ys : List Value) (ro : Option Addr) (rcap : Nat) (w' : World) : Prop :=
  Rd w' ro (xs ++ ys) ∧ Keep [] w w' ∧ ((n = 0 ∧ ro = bo ∧ rcap = bcap) ∨ (0 < n ∧ ∃ g, ro = some ⟨g, 0, none⟩ ∧ (0 < m → w.heap.size ≤ g) ∧ ∃ c, w'.heap[g]? = some (.cells c 3 (0, 0))))

set_option maxHeartbeats 400000 in
theorem join_any (B n m bcap : Nat) (bo : Option Addr) (xs ys ms : List Value) (w : World) (hB : Blk w B 3 (xs ++ ms)) (hn : xs.length = n) (hb : Rd w bo ys) (hm : ys.length = m) (ox : ∀ u ∈ xs, u.oneCell' = true) (oy : ∀ u ∈ ys, u.oneCell' = true)
    (bn : n ≤ 1024) (bm : m ≤ 1024) :
    Calls Yba.prog 9 #[.slice (some ⟨B, 0, none⟩) n (n + 4), .slice bo m bcap] w fun e w' => ∃ ro rcap, e = .returned (.slice ro (n + m) rcap) ∧ Hid (JoinOut w n bo m bcap xs ys ro rcap w') := by
  obtain ⟨i0, hi, hz0, hz1, hz2⟩ := info_parts info3
  have hR : Rd w (some ⟨B, 0, none⟩) xs := Rd.of_blk hB 0 _ (fun j u hj => by rw [Nat.zero_add, List.getElem?_append_left (List.getElem?_eq_some_iff.1 hj).1]; exact hj)
  by_cases h0 : n = 0
  · subst h0
    obtain rfl : xs = [] := List.eq_nil_of_length_eq_zero hn
    go_enter Yba.func9, Yba.ntmps9
    go_wp2
    go_ret
    exact ⟨bo, bcap, congrArg (fun k => Ending.returned (Value.slice bo k bcap)) (Nat.zero_add m).symm, hb, Keep.refl _ _, .inl ⟨rfl, rfl, rfl⟩⟩
  · have h1 : 0 < n := by omega
    have hl := hB.lt
    by_cases h2 : m = 0
    · subst h2
      obtain rfl : ys = [] := List.eq_nil_of_length_eq_zero hm
      go_enter Yba.func9, Yba.ntmps9
      go_wp2_with (at_builtin; refine halt ?_)
      refine unhalt ?_
      refine wpList_app_room _ rfl (.tmp 14) (.tmp 15) 29 rfl 3 i0 Yba.underlying29 hi hz1 B 0 n n rfl bo 0 bcap rfl _ [] hB hb rfl (by simp) (Nat.le_refl _) (by simp; omega) ?_
      intro w1 hB1 hg1 hs1
      have hk : Keep [] w w1 := by
        refine ⟨hg1.os, hg1.tape, hg1.output, hg1.size, fun k hk _ => ?_⟩
        by_cases hkB : k = B
        · subst hkB
          rw [show w1.heap[k]? = _ from hB1, show w.heap[k]? = _ from hB]
          simp [splice]
        · exact hg1.block k hk (by simpa using hkB)
      have hB1' : w1.heap[B]? = some (.cells _ 3 (0, 0)) := hB1
      clear hg1 hs1 hB1
      go_wp2
      go_ret
      exact ⟨some ⟨B, 0, none⟩, n, rfl, by simpa using hk.rd hR (by simp), hk, .inr ⟨h1, B, rfl, by simp, _, hB1'⟩⟩
    · go_enter Yba.func9, Yba.ntmps9
      go_wp2_with (at_builtin; refine halt ?_)
      refine unhalt ?_
      refine wpList_app_grow _ rfl (.tmp 14) (.tmp 15) 29 rfl 3 i0 (.int .i64 0) Yba.underlying29 hi hz0 hz1 rfl (some ⟨B, 0, none⟩) n n rfl bo m bcap rfl xs ys hR hn hb hm oy (by omega) (by rw [hz2]; omega) (by unfold maxLen; omega) ?_
      intro cap' w1 hc1 hB1 hg1 hs1
      have hk : Keep [] w w1 := (Keep.refl [] w).grown hg1 (by simp)
      have hB1' : w1.heap[w.heap.size]? = some (.cells _ 3 (0, 0)) := hB1
      have hRr : Rd w1 (some ⟨w.heap.size, 0, none⟩) (xs ++ ys) := Rd.of_blk hB1 0 _ (fun j u hj => by rw [Nat.zero_add, List.getElem?_append_left (List.getElem?_eq_some_iff.1 hj).1]; exact hj)
      clear hg1 hs1 hB1
      go_wp2
      go_ret
      exact ⟨some ⟨w.heap.size, 0, none⟩, cap', rfl, hRr, hk, .inr ⟨h1, w.heap.size, rfl, by simp, _, hB1'⟩⟩
end Go.Proofs.Ybulkdfxa
