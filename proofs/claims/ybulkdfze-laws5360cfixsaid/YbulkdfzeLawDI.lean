import Derived.Test.YbulkdfzeLawDH
import Derived.Test.YbulkdfzeLawF
namespace Go.Proofs.Ybulkdfze
open Go Go.RowKit Go.Lib Go.Shelf
theorem stp_ge (D : LD) (j : Nat) : ∀ (L : List Nat) (m : Int), m ≤ L.foldl (D.stp j) m ∧ ∀ t ∈ L, D.has t j = true → D.sv t j ≤ L.foldl (D.stp j) m
  | [], m => ⟨Int.le_refl _, by simp⟩
  | a :: r, m => by
    have ih := stp_ge D j r (D.stp j m a)
    have h1 : m ≤ D.stp j m a := by unfold LD.stp; split; exact Int.le_max_left _ _; exact Int.le_refl _
    refine ⟨Int.le_trans h1 ih.1, fun t ht hh => ?_⟩
    rcases List.mem_cons.1 ht with rfl | ht
    · refine Int.le_trans ?_ ih.1
      unfold LD.stp
      rw [if_pos hh]
      exact Int.le_max_right _ _
    · exact ih.2 t ht hh
theorem stp_le (D : LD) (j : Nat) (v : Int) : ∀ (L : List Nat) (m : Int), m ≤ v → (∀ t ∈ L, D.has t j = true → D.sv t j ≤ v) → L.foldl (D.stp j) m ≤ v
  | [], m, h, _ => h
  | a :: r, m, h, hl => by
    refine stp_le D j v r (D.stp j m a) ?_ (fun t ht => hl t (by simp [ht]))
    unfold LD.stp
    split
    · rename_i hh
      exact Int.max_le.2 ⟨h, hl a (by simp) hh⟩
    · exact h
theorem T_mem {D : LD} {t : Nat} (h : t ∈ D.T) : t < 4 ∧ D.pr t = true := by
  obtain ⟨k, hk⟩ := List.mem_iff_getElem?.1 h
  exact ⟨(T_lt hk).1, (T_lt hk).2.2.1⟩
theorem U_iff (D : LD) (I : LI) (J : LB) (J2 : LC) (J3 : LH) (X : LX) (j : Nat) (hj : j < 4) (v : Int) : (∃ t ∈ (mkFD D I J J2 J3 X).trans, (nameB j, v) ∈ (mkFD D I J J2 J3 X).lasts t) ↔ ∃ t ∈ D.T, D.has t j = true ∧ v = D.sv t j := by
  rw [trans_eq]
  have hl : ∀ t, t < 4 → (mkFD D I J J2 J3 X).lasts (nameB t) = D.lstj t 4 := fun t ht => by
    show (if idxB (nameB t) < 4 then D.lstj (idxB (nameB t)) 4 else []) = _
    rw [idxB_name t ht, if_pos ht]
  constructor
  · rintro ⟨m, hm, hp⟩
    obtain ⟨t, ht, rfl⟩ := List.mem_map.1 hm
    obtain ⟨t4, tp⟩ := T_mem ht
    rw [hl t t4] at hp
    unfold LD.lstj at hp
    obtain ⟨k, hk, e⟩ := List.mem_map.1 hp
    obtain ⟨k4, kh⟩ := pickN_lt hk
    obtain ⟨ea, eb⟩ := Prod.mk.inj e
    have := nameB_inj (by omega) (by omega) ea
    subst this
    exact ⟨t, ht, kh, by rw [← eb]; simp [LD.sv, tp, kh]⟩
  · rintro ⟨t, ht, hh, rfl⟩
    obtain ⟨t4, tp⟩ := T_mem ht
    refine ⟨nameB t, List.mem_map.2 ⟨t, ht, rfl⟩, ?_⟩
    rw [hl t t4]
    unfold LD.lstj
    exact List.mem_map.2 ⟨j, by unfold pickN; simp [List.mem_filter, hj, hh], by simp [LD.sv, tp, hh]⟩
theorem sv_nn (D : LD) (H : D.Ok) (i j : Nat) : 0 ≤ D.sv i j := by
  unfold LD.sv
  have := H.hsq i j
  split <;> omega
/-- The cut is what the law reckons. -/
theorem cut_look (D : LD) (H : D.Ok) (I : LI) (J : LB) (J2 : LC) (J3 : LH) (X : LX) (cs : List (ByteArray × Int)) (hc : CutIs (mkFD D I J J2 J3 X).os (fun p => ∃ t ∈ (mkFD D I J J2 J3 X).trans, p ∈ (mkFD D I J J2 J3 X).lasts t) cs) (j : Nat) (hj : j < 4) :
    lookI (nameB j) cs = if D.ch j = true then some (D.cv j) else none := by
  have hos : nameB j ∈ (mkFD D I J J2 J3 X).os ↔ D.O j = true := by
    show nameB j ∈ namesOf (pickN D.O 4) ↔ _
    constructor
    · intro h
      obtain ⟨k, hk, ho, e⟩ := mem_names h
      have := nameB_inj (by omega) (by omega) e
      subst this
      exact ho
    · intro h
      exact List.mem_map.2 ⟨j, by unfold pickN; simp [List.mem_filter, hj, h], rfl⟩
  have hch : D.ch j = true ↔ D.O j = true ∧ ∃ t ∈ D.T, D.has t j = true := by
    unfold LD.ch LD.chP
    rw [List.take_length, Bool.and_eq_true, List.any_eq_true]
  cases hl : lookI (nameB j) cs with
  | none =>
    rw [if_neg]
    intro h
    obtain ⟨ho, t, ht, hh⟩ := hch.1 h
    obtain ⟨m, hm, _⟩ := hc.full (nameB j) (D.sv t j) (hos.2 ho) ((U_iff D I J J2 J3 X j hj _).2 ⟨t, ht, hh, rfl⟩)
    rw [hl] at hm
    cases hm
  | some v =>
    obtain ⟨h1, h2⟩ := hc.sound _ _ hl
    obtain ⟨t, ht, hh, rfl⟩ := (U_iff D I J J2 J3 X j hj _).1 h2
    have ho := hos.1 h1
    rw [if_pos (hch.2 ⟨ho, t, ht, hh⟩)]
    congr 1
    unfold LD.cv LD.cvP
    rw [if_pos ho, List.take_length]
    refine Int.le_antisymm ((stp_ge D j D.T 0).2 t ht hh) (stp_le D j _ D.T 0 (sv_nn D H t j) fun t' ht' hh' => ?_)
    obtain ⟨m, hm, hle⟩ := hc.full (nameB j) (D.sv t' j) h1 ((U_iff D I J J2 J3 X j hj _).2 ⟨t', ht', hh', rfl⟩)
    rw [hl] at hm
    cases hm
    exact hle
theorem cut_len (D : LD) (H : D.Ok) (I : LI) (J : LB) (J2 : LC) (J3 : LH) (X : LX) (cs : List (ByteArray × Int)) (hc : CutIs (mkFD D I J J2 J3 X).os (fun p => ∃ t ∈ (mkFD D I J J2 J3 X).trans, p ∈ (mkFD D I J J2 J3 X).lasts t) cs) :
    cs.length = (pickN D.ch 4).length := by
  have hk : ∀ x, x ∈ cs.map (·.1) ↔ x ∈ namesOf (pickN D.ch 4) := fun x => by
    constructor
    · intro h
      obtain ⟨p, hp, rfl⟩ := List.mem_map.1 h
      have hl := mem_lookI hc.nd (show (p.1, p.2) ∈ cs from hp)
      obtain ⟨h1, _⟩ := hc.sound _ _ hl
      obtain ⟨j, hj, _, e⟩ := mem_names (f := D.O) h1
      rw [e] at hl ⊢
      rw [cut_look D H I J J2 J3 X cs hc j hj] at hl
      split at hl
      · rename_i h; exact List.mem_map.2 ⟨j, by unfold pickN; simp [List.mem_filter, hj, h], rfl⟩
      · cases hl
    · intro h
      obtain ⟨j, hj, hcj, rfl⟩ := mem_names h
      have hl := cut_look D H I J J2 J3 X cs hc j hj
      rw [if_pos hcj] at hl
      exact List.mem_map.2 ⟨_, lookI_mem hl, rfl⟩
  have hn2 : (namesOf (pickN D.ch 4)).Nodup := names_nodup _ (fun i hi => (pickN_lt hi).1) (List.nodup_range.filter _)
  have h1 := nodup_sub (namesOf (pickN D.ch 4)) (cs.map (·.1)) hc.nd (fun x hx => (hk x).1 hx)
  have h2 := nodup_sub (cs.map (·.1)) (namesOf (pickN D.ch 4)) hn2 (fun x hx => (hk x).2 hx)
  simp [namesOf] at h1 h2
  omega
theorem ents_len (s : Nat) : ∀ (kvs : List (ByteArray × Value)), (ents s kvs).length = kvs.length := fun kvs => by
  induction kvs generalizing s with
  | nil => rfl
  | cons p r ih => simp [ents, ih]
end Go.Proofs.Ybulkdfze
