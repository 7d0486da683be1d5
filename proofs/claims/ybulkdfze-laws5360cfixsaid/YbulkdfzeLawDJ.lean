import Derived.Test.YbulkdfzeLawDI
namespace Go.Proofs.Ybulkdfze
open Go Go.RowKit Go.Lib Go.Shelf
theorem DEl.get {w : World} {bo : Option Nat} : ∀ {L : List (ByteArray × ByteArray × Int × List Value)} {xs : List Value}, DEl w bo xs L → ∀ {i : Nat} {p}, L[i]? = some p → ∃ g c d, xs[i * 4]? = some (.string p.1) ∧ xs[i * 4 + 1]? = some (.string p.2.1) ∧ xs[i * 4 + 2]? = some (.int .u64 p.2.2.1) ∧ xs[i * 4 + 3]? = some (.slice (some ⟨g, 0, none⟩) p.2.2.2.length c) ∧ Blk w g 5 (p.2.2.2 ++ d)
  | [], _, _, i, p, h => by cases h
  | q :: r, _, ⟨g, c, d, zs, e, _, hb, hr⟩, i, p, h => by
    subst e
    cases i with
    | zero => simp at h; subst h; exact ⟨g, c, d, rfl, rfl, rfl, rfl, hb⟩
    | succ i =>
      obtain ⟨g', c', d', h1, h2, h3, h4, h5⟩ := DEl.get hr (i := i) (by simpa using h)
      have e : (i + 1) * 4 = i * 4 + 4 := by omega
      rw [e]
      exact ⟨g', c', d', h1, h2, h3, h4, h5⟩
theorem cv_zero (D : LD) (j : Nat) (h : D.ch j = false) : D.cv j = 0 := by
  unfold LD.cv
  split
  · rename_i ho
    unfold LD.ch LD.chP at h
    rw [ho, Bool.true_and, List.take_length] at h
    unfold LD.cvP
    rw [List.take_length]
    have : ∀ (L : List Nat), (∀ t ∈ L, D.has t j = false) → L.foldl (D.stp j) 0 = 0 := fun L hL => by
      induction L with
      | nil => rfl
      | cons a r ih => rw [List.foldl_cons]; simp only [LD.stp, hL a (by simp)]; exact ih fun t ht => hL t (by simp [ht])
    exact this _ fun t ht => by
      have := List.any_eq_false.1 h t ht
      simpa using this
  · rfl
/-- What a round of the deliveries leans on. -/
theorem gone_at (cutv : ByteArray → Int) {hs : List Rcv} {k : Nat} {p : Rcv} (h : hs[k]? = some p) (hc : p.2.1 ≤ cutv p.1) : (gone cutv hs)[(gone cutv (hs.take k)).length]? = some p := by
  have e : hs = hs.take k ++ p :: hs.drop (k + 1) := by
    obtain ⟨hl, rfl⟩ := List.getElem?_eq_some_iff.1 h
    rw [← List.drop_eq_getElem_cons hl, List.take_append_drop]
  have : gone cutv hs = gone cutv (hs.take k) ++ p :: gone cutv (hs.drop (k + 1)) := by
    conv => lhs; rw [e]
    simp [gone, hc]
  rw [this]; simp
theorem stay_at (cutv : ByteArray → Int) {hs : List Rcv} {k : Nat} {p : Rcv} (h : hs[k]? = some p) (hc : ¬ p.2.1 ≤ cutv p.1) : (stay cutv hs)[(stay cutv (hs.take k)).length]? = some p := by
  have e : hs = hs.take k ++ p :: hs.drop (k + 1) := by
    obtain ⟨hl, rfl⟩ := List.getElem?_eq_some_iff.1 h
    rw [← List.drop_eq_getElem_cons hl, List.take_append_drop]
  have : stay cutv hs = stay cutv (hs.take k) ++ p :: stay cutv (hs.drop (k + 1)) := by
    conv => lhs; rw [e]
    simp [stay, hc]
  rw [this]; simp
end Go.Proofs.Ybulkdfze
