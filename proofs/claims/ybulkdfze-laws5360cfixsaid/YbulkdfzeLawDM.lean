import Derived.Test.YbulkdfzeLawDL
namespace Go.Proofs.Ybulkdfze
open Go Go.RowKit Go.Lib Go.Shelf
/-- The entries that are not yet used. -/
def unU {α : Type} : List Bool → List α → List α
  | [], _ => []
  | _ :: _, [] => []
  | false :: u, x :: r => x :: unU u r
  | true :: u, _ :: r => unU u r
theorem unU_all {α : Type} : ∀ (l : List α), unU (List.replicate l.length false) l = l
  | [] => rfl
  | x :: r => by
    show x :: unU (List.replicate r.length false) r = _
    rw [unU_all r]
theorem unU_mem {α : Type} {x : α} : ∀ {U : List Bool} {l : List α}, x ∈ unU U l → ∃ k : Nat, U[k]? = some false ∧ l[k]? = some x
  | [], _, h => by simp [unU] at h
  | _ :: _, [], h => by simp [unU] at h
  | false :: u, y :: r, h => by
    rcases List.mem_cons.1 (show x ∈ y :: unU u r from h) with rfl | h
    · exact ⟨0, rfl, rfl⟩
    · obtain ⟨k, h1, h2⟩ := unU_mem h
      exact ⟨k + 1, by simpa using h1, by simpa using h2⟩
  | true :: u, y :: r, h => by
    obtain ⟨k, h1, h2⟩ := unU_mem (show x ∈ unU u r from h)
    exact ⟨k + 1, by simpa using h1, by simpa using h2⟩
theorem unU_set {α : Type} {x : α} : ∀ {U : List Bool} {l : List α} {k : Nat}, U[k]? = some false → l[k]? = some x → (unU U l).Perm (x :: unU (U.set k true) l)
  | [], _, _, h, _ => by simp at h
  | _ :: _, [], _, _, h => by simp at h
  | b :: u, y :: r, 0, h, h2 => by
    simp at h h2
    subst h h2
    exact List.Perm.refl _
  | false :: u, y :: r, k + 1, h, h2 => by
    have ih := unU_set (U := u) (l := r) (k := k) (by simpa using h) (by simpa using h2)
    show (y :: unU u r).Perm (x :: y :: unU (u.set k true) r)
    exact (ih.cons y).trans (List.Perm.swap x y _)
  | true :: u, y :: r, k + 1, h, h2 => unU_set (U := u) (l := r) (k := k) (by simpa using h) (by simpa using h2)
/-- One more is matched. -/
theorem match_step {α : Type} {S W : List α} {U : List Bool} {i k : Nat} {x : α} (h : (S.drop i).Perm (unU U W)) (hx : S[i]? = some x) (hu : U[k]? = some false) (hw : W[k]? = some x) : (S.drop (i + 1)).Perm (unU (U.set k true) W) := by
  obtain ⟨hl, rfl⟩ := List.getElem?_eq_some_iff.1 hx
  rw [List.drop_eq_getElem_cons hl] at h
  exact List.Perm.cons_inv (h.trans (unU_set hu hw))
theorem match_some {α : Type} {S W : List α} {U : List Bool} {i : Nat} {x : α} (h : (S.drop i).Perm (unU U W)) (hx : S[i]? = some x) : ∃ k : Nat, U[k]? = some false ∧ W[k]? = some x := by
  obtain ⟨hl, rfl⟩ := List.getElem?_eq_some_iff.1 hx
  rw [List.drop_eq_getElem_cons hl] at h
  exact unU_mem (h.subset List.mem_cons_self)
theorem SEl.get {w : World} : ∀ {L : List (ByteArray × List Value)} {xs : List Value} {i : Nat} {p : ByteArray × List Value}, SEl w xs L → L[i]? = some p →
    ∃ g1 c1 g2 c2 d1 d2, xs[i * 3]? = some (.int .u8 9) ∧ xs[i * 3 + 1]? = some (.slice (some ⟨g1, 0, none⟩) 1 c1) ∧ xs[i * 3 + 2]? = some (.slice (some ⟨g2, 0, none⟩) p.2.length c2) ∧ Blk w g1 9 (.string p.1 :: d1) ∧ Blk w g2 5 (p.2 ++ d2)
  | [], _, _, _, _, h => by simp at h
  | q :: r, _, 0, p, ⟨g1, c1, g2, c2, d1, d2, ys, e, b1, b2, _⟩, h => by
    simp at h
    subst h
    exact ⟨g1, c1, g2, c2, d1, d2, by rw [e]; rfl, by rw [e]; rfl, by rw [e]; rfl, b1, b2⟩
  | q :: r, xs, i + 1, p, ⟨g1, c1, g2, c2, d1, d2, ys, e, _, _, hr⟩, h => by
    obtain ⟨a1, a2, a3, a4, a5, a6, h1, h2, h3, h4⟩ := SEl.get hr (by simpa using h)
    refine ⟨a1, a2, a3, a4, a5, a6, ?_, ?_, ?_, h4⟩
    · rw [e, show (i + 1) * 3 = i * 3 + 1 + 1 + 1 by omega]; simpa using h1
    · rw [e, show (i + 1) * 3 + 1 = i * 3 + 1 + 1 + 1 + 1 by omega]; simpa using h2
    · rw [e, show (i + 1) * 3 + 2 = i * 3 + 2 + 1 + 1 + 1 by omega]; simpa using h3
/-- A forward: nine bytes. -/
def Nine (p : ByteArray × List Value) : Prop := ∃ zs : List Int, zs.length = 9 ∧ p.2 = zs.map (Value.int .u8)
theorem want_nine (D : LD) (I : LI) (J : LB) (J2 : LC) (J3 : LH) (X : LX) : ∀ p ∈ D.want I J J2 J3 X 4, Nine p := fun p hp => by
  unfold LD.want at hp
  obtain ⟨j, hj, hp⟩ := List.mem_flatMap.1 hp
  have hj4 := List.mem_range.1 hj
  rw [wantJ_eq D I J J2 J3 X j hj4] at hp
  split at hp
  · split at hp
    · simp at hp
    · split at hp
      · simp at hp
      · unfold LD.wk at hp
        obtain ⟨t, _, hp⟩ := List.mem_flatMap.1 hp
        unfold LD.wt msgs at hp
        obtain ⟨i, _, rfl⟩ := List.mem_map.1 hp
        refine ⟨[2, 118, 49, 1, 97 + (j : Int), (i : Int) + 1, 2, (i : Int) + 1, 97 + (j : Int)], rfl, ?_⟩
        exact fwd_eq j hj4 ((i : Int) + 1)
  · simp at hp
end Go.Proofs.Ybulkdfze
