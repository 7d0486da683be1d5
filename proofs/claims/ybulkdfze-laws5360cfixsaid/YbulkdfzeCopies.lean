import Derived.Test.YbulkdfzeClone
namespace Go.Proofs.Ybulkdfze
open Go Go.RowKit Go.Lib

set_option maxRecDepth 20000 in
/-- '(*copies).msg'. -/
theorem msg_any (K PB BF bl bc : Nat) (seq : Int) (off : Nat) (w : World) (c2 : w.cell? ⟨K, 2, none⟩ = some (.slice (some ⟨PB, 0, none⟩) 1 1)) (c3 : w.cell? ⟨K, 3, none⟩ = some (.int .u64 0))
    (cp : w.cell? ⟨PB, 0, none⟩ = some (.slice (some ⟨BF, 0, none⟩) bl bc)) (hof : off + 2 ≤ bl) (hbc : bl ≤ bc) (hbl : bl ≤ 1000) :
    Calls Yba.prog 21 #[.pointer (some ⟨K, 0, none⟩), .agg #[.int .u64 seq, .int .u64 0, .int .i64 off, .int .i64 2]] w
      fun e w' => e = .returned (.slice (some ⟨BF, off, none⟩) 2 2) ∧ Keep [] w w' := by
  have d2 := c2
  have lK := block_lt_of_cell c2
  have lP := block_lt_of_cell cp
  go_enter Yba.func21, Yba.ntmps21
  go_wp2
  go_quiet (fail)
  have hk : Keep [] w ((w.alloc (.cells #[.int .u64 seq, .int .u64 0, .int .i64 off, .int .i64 2] 49)).drewN nq) := ((Keep.refl [] w).alloc _).drewN nq
  go_wp2
  refine bodyPost_ret (v := .slice (some ⟨BF, off, none⟩) (off + 2 - off) (off + 2 - off)) (by simp [results, Yba.results21, go_sem]) rfl ⟨?_, hk⟩
  rw [Nat.add_sub_cancel_left]

/-- The copier's buffer. -/
def BufOk (w : World) (v : Value) : Prop := v = .slice none 0 0 ∨ ∃ g L cs, v = .slice (some ⟨g, 0, none⟩) L 6 ∧ L ≤ 6 ∧ Blk w g 5 cs ∧ cs.length = 6

/-- What Copy leaves. -/
def Copied (w : World) (C o : Nat) (t : TypeId) (cs : List Value) (x y : Value) (e : Ending) (w' : World) : Prop :=
  ∃ g L bs, e = .returned (.slice (some ⟨g, L, none⟩) 2 2) ∧ L + 2 ≤ 6 ∧ Blk w' g 5 bs ∧ bs.length = 6 ∧ bs[L]? = some x ∧ bs[L + 1]? = some y ∧ Blk w' C t (cs.set (o + 1) (.slice (some ⟨g, 0, none⟩) (L + 2) 6)) ∧
    ((w.heap.size ≤ g ∧ Keep [C] w w') ∨ (∃ L0, cs[o + 1]? = some (.slice (some ⟨g, 0, none⟩) L0 6) ∧ Keep [C, g] w w'))

set_option maxRecDepth 20000 in
set_option maxHeartbeats 1000000 in
/-- '(*Copier).Copy' of two bytes, Tailroom 0, where a new buffer is made. -/
theorem copy_new (C o : Nat) (t : TypeId) (cs : List Value) (ad : Addr) (bo : Option Addr) (L cap : Nat) (x y : Int) (w : World) (hC : Blk w C t cs) (h0 : cs[o]? = some (.int .i64 0)) (h1 : cs[o + 1]? = some (.slice bo L cap))
    (hfull : cap < L + 2) (hL : L ≤ 6) (hz : Rd w (some ad) [.int .u8 x, .int .u8 y]) (had : ad.block ≠ C) :
    Calls Yba.prog 20 #[.pointer (some ⟨C, o, none⟩), .slice (some ad) 2 2] w (Copied w C o t cs (.int .u8 x) (.int .u8 y)) := by
  obtain ⟨i0, hi, hz0, hz1, hz2⟩ := info_parts info5
  have c0 := hC.cell o
  rw [h0] at c0
  have c1 := hC.cell (o + 1)
  rw [h1] at c1
  have f1 := hC.free (o + 1)
  have lC := hC.lt
  have q1 : decide ((cap : Int) < (L : Int) + 2) = true := decide_eq_true (by omega)
  go_enter Yba.func20, Yba.ntmps20
  go_wp2
  go_quiet (fail)
  have c0d : (w.drewN nq).cell? ⟨C, o, none⟩ = some (.int .i64 0) := c0
  go_wp2_with (at_make; refine halt ?_)
  refine unhalt ?_
  refine wpList_mk _ rfl _ _ 46 rfl 5 i0 (.int .u8 0) Yba.underlying46 hi hz0 hz1 rfl .i64 .i64 0 6 0 6 rfl rfl (by omega) (by omega) (by omega) (by rw [hz2]; omega) (by unfold maxLen; omega) ?_
  intro w1 hB1 hg1 hs1
  have k1 : Keep [] w w1 := ((Keep.refl [] w).drewN nq).grown hg1 (by simp)
  obtain ⟨g, hg⟩ : ∃ g, g = (w.drewN nq).heap.size := ⟨_, rfl⟩
  rw [← hg] at hB1 ⊢
  have hgw : w.heap.size ≤ g := by rw [hg]; exact Nat.le_refl _
  clear hg hg1 hs1
  have hC1 := k1.blk hC (by simp)
  have d1 := hC1.cell (o + 1)
  rw [h1] at d1
  have e1 := hC1.free (o + 1)
  have lC1 := hC1.lt
  go_wp2_with (at_builtin; refine halt ?_)
  refine unhalt ?_
  have lo : o + 1 < cs.length := (List.getElem?_eq_some_iff.1 h1).1
  have hC2 : Blk (w1.setCell ⟨C, o + 1, none⟩ (.slice (some ⟨g, 0, none⟩) 0 6)) C t (cs.set (o + 1) (.slice (some ⟨g, 0, none⟩) 0 6)) := hC1.set _ _
  have hB2 : Blk (w1.setCell ⟨C, o + 1, none⟩ (.slice (some ⟨g, 0, none⟩) 0 6)) g 5 (List.replicate 6 (.int .u8 0)) := hB1.set_other _ _ (by dsimp only; omega)
  have k2 : Keep [C] w (w1.setCell ⟨C, o + 1, none⟩ (.slice (some ⟨g, 0, none⟩) 0 6)) := (k1.mono (by simp)).setCell _ _ (by simp)
  generalize (w1.setCell ⟨C, o + 1, none⟩ (.slice (some ⟨g, 0, none⟩) 0 6)) = w2 at hC2 hB2 k2 ⊢
  have hz2' := k2.rd hz (by intro a ha; cases ha; simpa using had)
  refine wpList_app_room _ rfl (.tmp 52) (.tmp 53) 46 rfl 5 i0 Yba.underlying46 hi hz1 g 0 0 6 rfl (some ad) 2 2 rfl _ [.int .u8 x, .int .u8 y] hB2 hz2' rfl (by simp [Value.oneCell']) (by omega) (by simp) ?_
  intro w3 hB3 hg3 hs3
  have k3 : Keep [C] w w3 := k2.grown hg3 (by intro k hk hlt; cases hk; omega)
  have hC3 : Blk w3 C t (cs.set (o + 1) (.slice (some ⟨g, 0, none⟩) 0 6)) := hC2.kept hg3 (by intro e; cases e; omega)
  clear hg3 hs3 k1 hC1 hB1 hz2' d1 e1 hB2 hC2 c0 c1 f1 c0d k2 q1
  have d3 := hC3.cell (o + 1)
  rw [List.getElem?_set_self lo] at d3
  have e3 := hC3.free (o + 1)
  have lC3 := hC3.lt
  go_wp2
  refine bodyPost_ret (v := .slice (some ⟨g, 0, none⟩) 2 2) (by simp [results, Yba.results20, go_sem]) rfl ?_
  have hC4 := hC3.set (o + 1) (.slice (some ⟨g, 0, none⟩) 2 6)
  rw [List.set_set] at hC4
  exact ⟨g, 0, _, rfl, by omega, hB3.set_other _ _ (by dsimp only; omega), by simp [splice], by simp [splice], by simp [splice], hC4, .inl ⟨hgw, k3.setCell _ _ (by simp)⟩⟩

set_option maxRecDepth 20000 in
set_option maxHeartbeats 1000000 in
/-- '(*Copier).Copy' of two bytes, Tailroom 0, where the buffer has room. -/
theorem copy_room (C o : Nat) (t : TypeId) (cs : List Value) (ad : Addr) (g L : Nat) (bs : List Value) (x y : Int) (w : World) (hC : Blk w C t cs) (h0 : cs[o]? = some (.int .i64 0)) (h1 : cs[o + 1]? = some (.slice (some ⟨g, 0, none⟩) L 6))
    (hL : L + 2 ≤ 6) (hB : Blk w g 5 bs) (lb : bs.length = 6) (hz : Rd w (some ad) [.int .u8 x, .int .u8 y]) (hgC : g ≠ C) :
    Calls Yba.prog 20 #[.pointer (some ⟨C, o, none⟩), .slice (some ad) 2 2] w (Copied w C o t cs (.int .u8 x) (.int .u8 y)) := by
  obtain ⟨i0, hi, hz0, hz1, hz2⟩ := info_parts info5
  have c0 := hC.cell o
  rw [h0] at c0
  have c1 := hC.cell (o + 1)
  rw [h1] at c1
  have lC := hC.lt
  have q1 : decide ((6 : Int) < (L : Int) + 2) = false := decide_eq_false (by omega)
  go_enter Yba.func20, Yba.ntmps20
  go_wp2
  go_quiet (fail)
  have k1 : Keep [] w (w.drewN nq) := (Keep.refl [] w).drewN nq
  generalize w.drewN nq = w2 at k1 ⊢
  have hC2 := k1.blk hC (by simp)
  have hB2 := k1.blk hB (by simp)
  have hz2' := k1.rd hz (by simp)
  have d1 := hC2.cell (o + 1)
  rw [h1] at d1
  go_wp2_with (at_builtin; refine halt ?_)
  refine unhalt ?_
  refine wpList_app_room _ rfl (.tmp 52) (.tmp 53) 46 rfl 5 i0 Yba.underlying46 hi hz1 g 0 L 6 rfl (some ad) 2 2 rfl _ [.int .u8 x, .int .u8 y] hB2 hz2' rfl (by simp [Value.oneCell']) (by omega) (by omega) ?_
  intro w3 hB3 hg3 hs3
  have lo : o + 1 < cs.length := (List.getElem?_eq_some_iff.1 h1).1
  have k3 : Keep [C, g] w w3 := (k1.mono (by simp)).grown hg3 (by intro k hk hlt; cases hk; simp)
  have hC3 : Blk w3 C t cs := hC2.kept hg3 (by intro e; cases e; exact hgC rfl)
  clear hg3 hs3 k1 hB2 hC2 d1 hz2' c0 c1 q1
  have d3 := hC3.cell (o + 1)
  rw [h1] at d3
  have e3 := hC3.free (o + 1)
  have lC3 := hC3.lt
  go_wp2
  refine bodyPost_ret (v := .slice (some ⟨g, L, none⟩) (L + 2 - L) (L + 2 - L)) (by simp [results, Yba.results20, go_sem]) rfl ?_
  rw [Nat.add_sub_cancel_left]
  have hC4 := hC3.set (o + 1) (.slice (some ⟨g, 0, none⟩) (L + 2) 6)
  refine ⟨g, L, _, rfl, hL, hB3.set_other _ _ hgC, ?_, ?_, ?_, hC4, .inr ⟨L, h1, k3.setCell _ _ (by simp)⟩⟩
  · simp [splice]; omega
  · have hl : (bs.take L).length = L := by simp; omega
    unfold splice
    rw [Nat.zero_add, List.getElem?_append_right (by omega), hl]
    simp
  · have hl : (bs.take L).length = L := by simp; omega
    unfold splice
    rw [Nat.zero_add, List.getElem?_append_right (by omega), hl, Nat.add_sub_cancel_left]
    simp
end Go.Proofs.Ybulkdfze
