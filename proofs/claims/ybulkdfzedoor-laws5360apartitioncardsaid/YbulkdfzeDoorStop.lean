import Derived.Test.YbulkdfzeDoorStop1
namespace Go.Proofs.YbulkdfzeDoor
open Go Go.RowKit

theorem ships_any (vs : ByteArray) (ao : Option Addr) (n c : Nat) (w : World) :
    Calls Ybad.prog 6 #[.string vs, .slice ao n c] w (fun e w' => e = .returned (.func (.func 9) #[] #[.pointer (some ⟨w.heap.size + 1, 0, none⟩), .pointer (some ⟨w.heap.size, 0, none⟩)]) ∧ w' = (w.alloc (.cells #[.string vs] 9)).alloc (.cells #[.slice ao n c] 23)) := by
  go_enter Ybad.func6, Ybad.ntmps6
  go_wp2
  go_ret
  exact ⟨rfl, rfl⟩

theorem stop_big (vs : ByteArray) (ao : Option Addr) (n c : Nat) (z : Int) (w : World) (hn : 512 < n) :
    Calls Ybad.prog 4 #[.string vs, .slice ao n c, .int .u8 z] w (fun e w' => e = .returned (.bool true) ∧ Keep [] w w') := by
  have HB := build_big ao n c w hn
  go_enter Ybad.func4, Ybad.ntmps4
  go_wp2_with (go_at_call 5; refine HB.mono ?_; rintro e w1 ⟨rfl, rfl⟩)
  go_ret
  exact ⟨rfl, Keep.refl _ _⟩

set_option maxHeartbeats 400000 in
theorem stop_small (vs : ByteArray) (ao : Option Addr) (n c : Nat) (zs : List Int) (z : Int) (w : World) (hn : n ≤ 512) (lz : zs.length = n) (hr : Rd w ao (zs.map (Value.int .u8))) (hz : ∀ z ∈ zs, 0 ≤ z ∧ z < 256)
    (hv : w.cell? ⟨0, 0, none⟩ = some (.int .i64 262144)) (hz0 : 0 ≤ z) (hz1 : z < 256) :
    Calls Ybad.prog 4 #[.string vs, .slice ao n c, .int .u8 z] w (fun e w' => e = .returned (.bool true) ∧ Keep [] w w') := by
  have HB := unhalt (build_small ao n c zs w hn lz hr hz hv)
  go_enter Ybad.func4, Ybad.ntmps4
  go_wp2_with (go_at_call 5; refine halt ?_)
  refine unhalt ?_
  refine HB.out.mono ?_
  rintro e w1 ⟨g, hg, hg1, rfl, hE, k1⟩
  have v1 := k1.cell hv (by simp)
  have HC := unhalt (count_any g w.heap.size n (zs.map szOf) w1 hn (by simpa using lz) (by intro d hd; obtain ⟨z, _, rfl⟩ := List.mem_map.1 hd; exact szOf_le z) hE v1)
  clear HB
  go_wp2_with (go_at_call 7; refine halt ?_)
  refine unhalt ?_
  refine HC.out.mono ?_
  rintro e w2 ⟨rfl, k2⟩
  clear HC
  go_wp2_with (go_at_call 6; refine halt ?_)
  refine unhalt ?_
  obtain ⟨s, hs⟩ : ∃ s : Nat, z % 4 + 1 = (s : Int) := ⟨(z % 4 + 1).toNat, by omega⟩
  have hs1 : 1 ≤ s := by omega
  have hs2 : s ≤ 4 := by omega
  rw [hs]
  have z4 : 0 ≤ z % 4 := by omega
  generalize z % 4 = z4 at z4 ⊢
  clear hs
  have hS3 : Blk ((w2.alloc (.cells #[.int .i64 s] 3)).alloc (.cells #[.int .i64 0] 3)) w2.heap.size 3 [.int .i64 s] := (Blk.new w2 _ 3).alloc _
  have hC3 : Blk ((w2.alloc (.cells #[.int .i64 s] 3)).alloc (.cells #[.int .i64 0] 3)) (w2.heap.size + 1) 3 [.int .i64 0] := Blk.new' (w2.alloc _) _ 3 _ (by simp)
  have k3 : Keep [] w2 ((w2.alloc (.cells #[.int .i64 s] 3)).alloc (.cells #[.int .i64 0] 3)) := ((Keep.refl [] w2).alloc _).alloc _
  have z3 : ((w2.alloc (.cells #[.int .i64 s] 3)).alloc (.cells #[.int .i64 0] 3)).heap.size = w2.heap.size + 2 := by simp
  generalize ((w2.alloc (.cells #[.int .i64 s] 3)).alloc (.cells #[.int .i64 0] 3)) = w3 at hS3 hC3 k3 z3 ⊢
  have z5 : w2.heap.size + 2 ≤ w3.heap.size := Nat.le_of_eq z3.symm
  clear z3
  refine (ships_any vs _ n n w3).mono ?_
  rintro e w4 ⟨rfl, e4⟩
  have hS4 : Blk w4 w2.heap.size 3 [.int .i64 s] := by rw [e4]; exact (hS3.alloc _).alloc _
  have hC4 : Blk w4 (w2.heap.size + 1) 3 [.int .i64 0] := by rw [e4]; exact (hC3.alloc _).alloc _
  have hV4 : Blk w4 w3.heap.size 9 [.string vs] := by rw [e4]; exact (Blk.new w3 _ 9).alloc _
  have hE4 : Blk w4 (w3.heap.size + 1) 23 [.slice (some ⟨g, 0, none⟩) n n] := by rw [e4]; exact Blk.new' (w3.alloc _) _ 23 _ (by simp)
  have k34 : Keep [] w3 w4 := by rw [e4]; exact ((Keep.refl [] w3).alloc _).alloc _
  have k14 : Keep [] w1 w4 := (k2.trans k3 (by simp)).trans k34 (by simp)
  have k04 : Keep [] w w4 := k1.trans k14 (by simp)
  have b0 := block_lt_of_cell hv
  have b1 := k1.size
  have b2 := k2.size
  have cS4 := hS4.cell 0
  have cV4 := hV4.cell 0
  simp only [List.getElem?_cons_zero] at cS4 cV4
  dsimp only at b0
  have HI := unhalt (iter_stop (w2.heap.size + 1) w2.heap.size (w3.heap.size + 1) w3.heap.size g w.heap.size n vs (zs.map szOf) s w4 hn (by simpa using lz) (by intro d hd; obtain ⟨z, _, rfl⟩ := List.mem_map.1 hd; exact szOf_le z) (hE.keep k14 (by simp)) (k14.cell v1 (by simp)) hC4 cS4 hs1 hs2 hE4 cV4 (by omega) (by omega) (by omega) (by omega) (by omega) (by omega) (by omega) (by omega) (by omega))
  clear e4
  go_wp2_with (go_at_call 9; refine halt ?_)
  refine unhalt ?_
  refine HI.out.mono ?_
  rintro e w5 ⟨rfl, hc5, k5⟩
  have k05 : Keep [] w w5 := k04.trans k5 (by simp; omega)
  clear HI k04 k34 k14 k3 k2 k1
  have hle := nships_le (zs.map szOf)
  rw [List.length_map] at hle
  generalize nships (zs.map szOf) = m at hc5 hle ⊢
  have cS5 := k5.cell cS4 (by simp; omega)
  obtain ⟨q, hq, HQ⟩ : ∃ q, min s m = q ∧ Hid (min s m = q) := ⟨_, rfl, rfl⟩
  rw [hq] at hc5
  clear hq
  by_cases hsm : s < m
  · have q1 : (s : Int) < (m : Int) := by omega
    go_wp2
    have hq : q = s := by have := HQ.out; omega
    exact bodyPost_ret (v := .bool ((q : Int) == (s : Int))) (by simp [results, Ybad.results4, go_sem]) rfl ⟨by rw [hq]; simp, k05⟩
  · have q1 : ¬ (s : Int) < (m : Int) := by omega
    go_wp2
    have hq : q = m := by have := HQ.out; omega
    exact bodyPost_ret (v := .bool ((q : Int) == (m : Int))) (by simp [results, Ybad.results4, go_sem]) rfl ⟨by rw [hq]; simp, k05⟩
end Go.Proofs.YbulkdfzeDoor
