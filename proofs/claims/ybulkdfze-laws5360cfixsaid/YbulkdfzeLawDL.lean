import Derived.Test.YbulkdfzeLawDK
namespace Go.Proofs.Ybulkdfze
open Go Go.RowKit Go.Lib Go.Shelf
/-- Who sends on j's messages. -/
def LD.fnm (D : LD) (j : Nat) : ByteArray := ((D.T.find? fun t => decide (D.sv t j = D.cv j)).map nameB).getD ⟨#[]⟩
def LD.wt (D : LD) (j t n : Nat) : List (ByteArray × List Value) := msgs vone (nameB j) (nameB t) (cOf j) (D.sv t j) (D.cv j) n
def LD.wk (D : LD) (j k : Nat) : List (ByteArray × List Value) := (D.T.take k).flatMap fun t => D.wt j t (D.kk j)
theorem wk_succ (D : LD) (j k t : Nat) (h : D.T[k]? = some t) : D.wk j (k + 1) = D.wk j k ++ D.wt j t (D.kk j) := by
  unfold LD.wk; rw [List.take_add_one, h]; simp
theorem fnm_some (D : LD) (j k t : Nat) (h : D.T[k]? = some t) (he : D.sv t j = D.cv j) (hn : ∀ i, i < k → ∀ x, D.T[i]? = some x → D.sv x j ≠ D.cv j) : D.fnm j = nameB t := by
  have : (D.T.find? fun t => decide (D.sv t j = D.cv j)) = some t := by
    rw [List.find?_eq_some_iff_getElem]
    obtain ⟨hl, h2⟩ := List.getElem?_eq_some_iff.1 h
    exact ⟨by simpa using he, k, hl, h2, fun i hi => by simpa using hn i hi _ (List.getElem?_eq_getElem (by omega))⟩
  unfold LD.fnm; rw [this]; rfl
theorem fnm_none (D : LD) (j : Nat) (hn : ∀ i, i < D.T.length → ∀ x, D.T[i]? = some x → D.sv x j ≠ D.cv j) : D.fnm j = ⟨#[]⟩ := by
  have : (D.T.find? fun t => decide (D.sv t j = D.cv j)) = none := by
    rw [List.find?_eq_none]
    intro t ht
    obtain ⟨k, hk⟩ := List.mem_iff_getElem?.1 ht
    simpa using hn k (List.getElem?_eq_some_iff.1 hk).1 t hk
  unfold LD.fnm; rw [this]; rfl
theorem find_names (p : ByteArray → Bool) (q : Nat → Bool) : ∀ (l : List Nat), (∀ t ∈ l, p (nameB t) = q t) → (namesOf l).find? p = (l.find? q).map nameB
  | [], _ => rfl
  | a :: r, h => by
    have h1 := h a (by simp)
    have ih := find_names p q r (fun t ht => h t (by simp [ht]))
    show (nameB a :: namesOf r).find? p = _
    rw [List.find?_cons, List.find?_cons, h1]
    cases q a <;> simp [ih]
theorem wantJ_eq (D : LD) (I : LI) (J : LB) (J2 : LC) (J3 : LH) (X : LX) (j : Nat) (hj : j < 4) : D.wantJ I J J2 J3 X j = if D.ch j = true then (if D.tr j = true then [] else if D.fnm j ≠ nameB (D.self % 5).toNat then [] else D.wk j D.T.length) else [] := by
  unfold LD.wantJ fwdOf
  by_cases hc : D.ch j = true
  · rw [if_pos hc, if_pos hc]
    have ha : ((namesOf D.T).any fun t => decide (t = nameB j)) = true ↔ D.tr j = true := by
      rw [any_iff]
      constructor
      · intro h
        obtain ⟨k, hk, ht, e⟩ := mem_names h
        have := nameB_inj (by omega) (by omega) e
        subst this
        exact ht
      · intro h
        exact List.mem_map.2 ⟨j, by unfold LD.T pickN; simp [List.mem_filter, hj, h], rfl⟩
    by_cases ht : D.tr j = true
    · rw [if_pos ht, if_pos (ha.2 ht)]
    · rw [if_neg ht, if_neg (fun h => ht (ha.1 h))]
      have hf : ((namesOf D.T).find? fun t => decide ((mkFD D I J J2 J3 X).lastv t (nameB j) = D.cv j)).getD ⟨#[]⟩ = D.fnm j := by
        rw [find_names _ (fun t => decide (D.sv t j = D.cv j)) D.T (fun t ht => by
          obtain ⟨t4, tp⟩ := T_mem ht
          rw [lastv_name D I J J2 J3 X t j t4 hj tp])]
        rfl
      rw [hf]
      by_cases hn : D.fnm j ≠ nameB (D.self % 5).toNat
      · rw [if_pos hn, if_pos hn]
      · rw [if_neg hn, if_neg hn]
        unfold LD.wk namesOf
        rw [List.take_length, List.flatMap_map]
        have key : ∀ l : List Nat, (∀ t ∈ l, t ∈ D.T) → l.flatMap (fun t => msgs vone (nameB j) (nameB t) ((mkFD D I J J2 J3 X).kc (nameB j)) ((mkFD D I J J2 J3 X).lastv (nameB t) (nameB j)) (D.cv j) ((mkFD D I J J2 J3 X).kn (nameB j))) = l.flatMap fun t => D.wt j t (D.kk j) := fun l hl => by
          induction l with
          | nil => rfl
          | cons a r ih =>
            rw [List.flatMap_cons, List.flatMap_cons, ih fun t ht => hl t (by simp [ht])]
            obtain ⟨t4, tp⟩ := T_mem (hl a (by simp))
            congr 1
            rw [lastv_name D I J J2 J3 X a j t4 hj tp]
            show msgs vone (nameB j) (nameB a) (cOf (idxB (nameB j))) (D.sv a j) (D.cv j) (D.kk (idxB (nameB j))) = _
            rw [idxB_name j hj]
            rfl
        exact key _ fun _ h => h
  · rw [if_neg hc, if_neg hc]
theorem wt_len (D : LD) (j t n : Nat) : (D.wt j t n).length ≤ n := msgs_len ..
theorem wk_len (D : LD) (j k : Nat) : (D.wk j k).length ≤ 32 := by
  have h1 := flatMap_le (fun t => D.wt j t (D.kk j)) 8 (D.T.take k) (fun t _ => Nat.le_trans (wt_len ..) (by have := D.kk_lt j; omega))
  have h2 : (D.T.take k).length ≤ 4 := by have := T_len D; simp; omega
  unfold LD.wk
  omega
theorem want_len (D : LD) (I : LI) (J : LB) (J2 : LC) (J3 : LH) (X : LX) (j : Nat) (hj : j ≤ 4) : (D.want I J J2 J3 X j).length ≤ 128 := by
  have h1 := flatMap_le (D.wantJ I J J2 J3 X) 32 (List.range j) (fun i hi => by
    have hi4 : i < 4 := by have := List.mem_range.1 hi; omega
    rw [wantJ_eq D I J J2 J3 X i hi4]
    have := wk_len D i D.T.length
    split
    · split
      · simp
      · split
        · simp
        · exact this
    · simp)
  unfold LD.want
  simp only [List.length_range] at h1
  omega
/-- What is wanted, as it lies in memory. -/
def WI (w : World) (L : List (ByteArray × List Value)) (v : Value) (wr : World) : Prop :=
  Keep [] w wr ∧ ∃ xs, wr.ownsRow w.heap.size 71 3 v L.length xs ∧ SEl wr xs L
theorem WI.keep {w : World} {L : List (ByteArray × List Value)} {v : Value} {wr w1 : World} (h : WI w L v wr) (k : Keep [] wr w1) : WI w L v w1 := by
  obtain ⟨h1, xs, h2, h3⟩ := h
  exact ⟨h1.trans k (by simp), xs, owns_keep h2 k (by simp), SEl.of (fun g cs hb => k.blk hb (by simp)) (fun g cs hb => k.blk hb (by simp)) h3⟩
/-- One more is wanted. -/
theorem WI.snoc {w : World} {L : List (ByteArray × List Value)} {v : Value} {wr wa w5 : World} {xs : List Value} (h1 : Keep [] w wr) (h3 : SEl wr xs L) (ka : Keep [] wr wa) (ho : wa.ownsRow w.heap.size 71 3 v L.length xs)
    {g1 g2 c1 c2 : Nat} {t : ByteArray} {ps : List Value} (b1 : Blk wa g1 9 [.string t]) (b2 : Blk wa g2 5 ps) {v5 : Value} (o5 : w5.ownsRow w.heap.size 71 3 v5 (L.length + 1) (xs ++ [.int .u8 9, .slice (some ⟨g1, 0, none⟩) 1 c1, .slice (some ⟨g2, 0, none⟩) ps.length c2])) (hg : wa.grownBy w5 v.ownBlock) : WI w (L ++ [(t, ps)]) v5 w5 := by
  have nt : ∀ {g e cs}, Blk wa g e cs → e ≠ 71 → Blk w5 g e cs := fun hb he => hb.kept hg (fun hq => by
    obtain ⟨c, fr, ht⟩ := (owns_lt ho _ hq.symm).2
    have := hb.symm.trans ht
    cases this
    exact he rfl)
  refine ⟨(h1.trans ka (by simp)).grown hg (fun x hx hlt => by have := (owns_lt ho x hx).1; omega), _, by simpa using o5, SEl.append (M := [(t, ps)]) ?_ (SEl.of (fun g cs hb => nt (ka.blk hb (by simp)) (by decide)) (fun g cs hb => nt (ka.blk hb (by simp)) (by decide)) h3)⟩
  exact ⟨g1, c1, g2, c2, [], [], [], rfl, nt b1 (by decide), by simpa using nt b2 (by decide), rfl⟩
end Go.Proofs.Ybulkdfze
