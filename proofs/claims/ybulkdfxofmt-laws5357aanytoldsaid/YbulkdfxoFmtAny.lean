import Derived.Test.YbulkdfxoFmtExpect
namespace Go.Proofs.YbulkdfxoFmt
open Go Go.RowKit Go.Extern.Stop Go.Stop Go.Extern

set_option maxHeartbeats 400000 in
/-- The law out of what its two callees give. -/
theorem any_core (s a b c : ByteArray) (ok : Bool) (w : World)
    (h5 : Hid (Calls Ybaf.prog 5 #[.string s] w fun e w' => (∃ ev, e = .returned (.tuple #[.agg #[.string a, .string b, .string c], ev]) ∧ ErrIs ok ev) ∧ Keep [] w w'))
    (h6 : Hid (∀ w, Calls Ybaf.prog 6 #[.string s] w fun e w' => e = .returned (.tuple #[.agg #[.string a, .string b, .string c], .bool ok]) ∧ Keep [] w w')) :
    Calls Ybaf.prog 3 #[.string s] w fun e w' => e = .returned (.bool true) ∧ Keep [] w w' := by
  cases ok
  · go_enter Ybaf.func3, Ybaf.ntmps3
    go_wp2_with (go_at_call 5; refine halt ?_)
    refine unhalt ?_
    refine h5.out.mono ?_
    rintro e w1 ⟨⟨ev, rfl, p, rfl⟩, k1⟩
    go_wp2_with (go_at_call 6; refine halt ?_)
    refine unhalt ?_
    refine (h6.out _).mono ?_
    rintro e w2 ⟨rfl, k2⟩
    have hG := k2.blk (Blk.new' w1 #[.string a, .string b, .string c] 23 w1.heap.size rfl) (by simp)
    have c0 := hG.cell 0
    have c1 := hG.cell 1
    have c2 := hG.cell 2
    have lG := hG.lt
    simp at c0 c1 c2
    have k3 := (k1.alloc (.cells #[.string a, .string b, .string c] 23)).trans k2 (by simp)
    clear k1 k2
    go_wp2
    go_ret
    exact ⟨rfl, k3.alloc _⟩
  · go_enter Ybaf.func3, Ybaf.ntmps3
    go_wp2_with (go_at_call 5; refine halt ?_)
    refine unhalt ?_
    refine h5.out.mono ?_
    rintro e w1 ⟨⟨ev, rfl, rfl⟩, k1⟩
    go_wp2_with (go_at_call 6; refine halt ?_)
    refine unhalt ?_
    refine (h6.out _).mono ?_
    rintro e w2 ⟨rfl, k2⟩
    have hG := k2.blk (Blk.new' w1 #[.string a, .string b, .string c] 23 w1.heap.size rfl) (by simp)
    have c0 := hG.cell 0
    have c1 := hG.cell 1
    have c2 := hG.cell 2
    have lG := hG.lt
    simp at c0 c1 c2
    have k3 := (k1.alloc (.cells #[.string a, .string b, .string c] 23)).trans k2 (by simp)
    clear k1 k2
    go_wp2
    go_ret
    exact ⟨rfl, k3.alloc _⟩

/-- For every string the law answers true. -/
theorem any_walk (F : Interp) (s : ByteArray) (w : World) (hF : F.answers w.tape) :
    Calls Ybaf.prog 3 #[.string s] w fun e w' => e = .returned (.bool true) ∧ Keep [] w w' := by
  by_cases hs : s.size = 8
  · cases hl : capL (s.data.toList.take 4)
    · refine any_core s ⟨#[]⟩ ⟨#[]⟩ ⟨#[]⟩ false w ?_ ?_
      · exact (read_bad F s w hF hs hl).mono fun e w' ⟨⟨p, he⟩, k⟩ => ⟨⟨_, he, p, rfl⟩, k⟩
      · exact fun w => (expect_any s w hs).mono fun e w' ⟨he, k⟩ => ⟨by unfold ExpOut at he; rw [hl] at he; exact he, k⟩
    · refine any_core s s (s.extract 0 4) (s.extract 4 8) (timeB (s.data.toList.drop 4)) w ?_ ?_
      · have h := read_time F s w hF hs hl _ rfl
        rw [hs] at h
        exact h
      · exact fun w => (expect_any s w hs).mono fun e w' ⟨he, k⟩ => ⟨by unfold ExpOut at he; rw [hl] at he; exact he, k⟩
  · refine any_core s ⟨#[]⟩ ⟨#[]⟩ ⟨#[]⟩ false w ?_ ?_
    · exact (read_long F s w hF hs).mono fun e w' ⟨⟨p, he⟩, k⟩ => ⟨⟨_, he, p, rfl⟩, k⟩
    · exact fun w => expect_long s w hs
end Go.Proofs.YbulkdfxoFmt
