import Derived.Test.YbulkdfzeLawDJ
namespace Go.Proofs.Ybulkdfze
open Go Go.RowKit Go.Lib Go.Shelf
theorem lookI_names {f : Nat → Bool} {g : Nat → Int} {j : Nat} (hj : j < 4) : lookI (nameB j) ((pickN f 4).map fun k => (nameB k, g k)) = if f j = true then some (g j) else none := by
  have key : ∀ (l : List Nat), (∀ i ∈ l, i < 4) → lookI (nameB j) (l.map fun k => (nameB k, g k)) = if j ∈ l then some (g j) else none := fun l hl => by
    induction l with
    | nil => rfl
    | cons a r ih =>
      simp only [List.map_cons, lookI]
      by_cases e : nameB j = nameB a
      · have : j = a := nameB_inj (by omega) (by have := hl a (by simp); omega) e
        rw [if_pos e, this]; simp
      · have hne : j ≠ a := fun h => e (by rw [h])
        rw [if_neg e, ih fun i hi => hl i (by simp [hi])]
        simp [hne]
  rw [key _ (fun i hi => (pickN_lt hi).1)]
  have : j ∈ pickN f 4 ↔ f j = true := by unfold pickN; simp [List.mem_filter, hj]
  by_cases h : f j = true
  · rw [if_pos (this.2 h), if_pos h]
  · rw [if_neg (fun e => h (this.1 e)), if_neg h]
/-- The numbers that a transitional member reported. -/
theorem lastv_name (D : LD) (I : LI) (J : LB) (J2 : LC) (J3 : LH) (X : LX) (t j : Nat) (ht : t < 4) (hj : j < 4) (hp : D.pr t = true) : (mkFD D I J J2 J3 X).lastv (nameB t) (nameB j) = D.sv t j := by
  show (lookI (nameB j) (if idxB (nameB t) < 4 then D.lstj (idxB (nameB t)) 4 else [])).getD 0 = _
  rw [idxB_name t ht, if_pos ht]
  unfold LD.lstj
  rw [lookI_names hj]
  unfold LD.sv
  by_cases h : D.has t j = true
  · rw [if_pos h]; simp [hp, h]
  · rw [if_neg h]; simp [h]
/-- A forward's bytes as the law lays them. -/
theorem fwd_eq (j : Nat) (hj : j < 4) (s : Int) : fwd vone (nameB j) s [.int .u8 s, .int .u8 (97 + (j : Int))] = [.int .u8 2, .int .u8 118, .int .u8 49, .int .u8 1, .int .u8 (97 + (j : Int)), .int .u8 s, .int .u8 2, .int .u8 s, .int .u8 (97 + (j : Int))] := by
  have : j = 0 ∨ j = 1 ∨ j = 2 ∨ j = 3 := by omega
  rcases this with rfl | rfl | rfl | rfl <;> rfl
/-- What the law wants sent for sender j. -/
def LD.wantJ (D : LD) (I : LI) (J : LB) (J2 : LC) (J3 : LH) (X : LX) (j : Nat) : List (ByteArray × List Value) :=
  if D.ch j = true then fwdOf vone (nameB (D.self % 5).toNat) (namesOf D.T) (mkFD D I J J2 J3 X).lastv (mkFD D I J J2 J3 X).kc (mkFD D I J J2 J3 X).kn (nameB j) (D.cv j) else []
def LD.want (D : LD) (I : LI) (J : LB) (J2 : LC) (J3 : LH) (X : LX) (j : Nat) : List (ByteArray × List Value) := (List.range j).flatMap (D.wantJ I J J2 J3 X)
theorem want_succ (D : LD) (I : LI) (J : LB) (J2 : LC) (J3 : LH) (X : LX) (j : Nat) : D.want I J J2 J3 X (j + 1) = D.want I J J2 J3 X j ++ D.wantJ I J J2 J3 X j := by simp [LD.want, List.range_succ]
theorem flatMap_filter_range (f : Nat → Bool) (g : Nat → List (ByteArray × List Value)) : ∀ (l : List Nat), (l.filter f).flatMap g = l.flatMap fun j => if f j = true then g j else []
  | [] => rfl
  | a :: r => by
    have ih := flatMap_filter_range f g r
    by_cases h : f a = true
    · rw [List.filter_cons_of_pos h, List.flatMap_cons, List.flatMap_cons, if_pos h, ih]
    · rw [List.filter_cons_of_neg h, List.flatMap_cons, if_neg h, ih]; rfl
theorem nodup_of_map {α β : Type} (f : α → β) : ∀ {l : List α}, (l.map f).Nodup → l.Nodup
  | [], _ => by simp
  | a :: r, h => by
    simp only [List.map_cons, List.nodup_cons] at h ⊢
    exact ⟨fun hm => h.1 (List.mem_map.2 ⟨a, hm, rfl⟩), nodup_of_map f h.2⟩
theorem flatMap_range_get {α : Type} (g : α → List (ByteArray × List Value)) : ∀ (l : List α) (F : Nat → List (ByteArray × List Value)), (∀ i p, l[i]? = some p → F i = g p) → (List.range l.length).flatMap F = l.flatMap g
  | [], _, _ => rfl
  | a :: r, F, hF => by
    have ih := flatMap_range_get g r (fun i => F (i + 1)) (fun i p h => hF (i + 1) p (by simpa using h))
    rw [List.length_cons, List.range_succ_eq_map, List.flatMap_cons, List.flatMap_map, List.flatMap_cons, hF 0 a (by simp), ← ih]
/-- What was sent is what is wanted, in some order. -/
theorem sent_perm (D : LD) (H : D.Ok) (I : LI) (J : LB) (J2 : LC) (J3 : LH) (X : LX) (cs : List (ByteArray × Int)) (hc : CutIs (mkFD D I J J2 J3 X).os (fun p => ∃ t ∈ (mkFD D I J J2 J3 X).trans, p ∈ (mkFD D I J J2 J3 X).lasts t) cs) (seen : List Nat) (hnd : seen.Nodup) (hall : ∀ i, i ∈ seen ↔ i < cs.length) :
    (seen.flatMap fun i => match cs[i]? with | some p => fwdOf vone (nameB (D.self % 5).toNat) (namesOf D.T) (mkFD D I J J2 J3 X).lastv (mkFD D I J J2 J3 X).kc (mkFD D I J J2 J3 X).kn p.1 p.2 | none => []).Perm (D.want I J J2 J3 X 4) := by
  have h1 : seen.Perm (List.range cs.length) := (List.perm_ext_iff_of_nodup hnd List.nodup_range).2 fun i => by rw [hall, List.mem_range]
  refine (h1.flatMap_right _).trans ?_
  refine List.Perm.trans (List.Perm.of_eq (flatMap_range_get (fun p : ByteArray × Int => fwdOf vone (nameB (D.self % 5).toNat) (namesOf D.T) (mkFD D I J J2 J3 X).lastv (mkFD D I J J2 J3 X).kc (mkFD D I J J2 J3 X).kn p.1 p.2) cs _ (fun i p h => by simp only [h]))) ?_
  have hkk : ∀ p ∈ cs, ∃ j, j < 4 ∧ D.ch j = true ∧ p = (nameB j, D.cv j) := fun p hp => by
    have hl := mem_lookI hc.nd (show (p.1, p.2) ∈ cs from hp)
    obtain ⟨h1, _⟩ := hc.sound _ _ hl
    obtain ⟨j, hj, _, e⟩ := mem_names (f := D.O) h1
    rw [e, cut_look D H I J J2 J3 X cs hc j hj] at hl
    split at hl
    · rename_i h; exact ⟨j, hj, h, Prod.ext e (Option.some.inj hl).symm⟩
    · cases hl
  have hn2 : ((pickN D.ch 4).map fun j => (nameB j, D.cv j)).Nodup := by
    have := names_nodup _ (fun i hi => (pickN_lt hi).1) (List.nodup_range.filter D.ch : (pickN D.ch 4).Nodup)
    refine nodup_of_map (fun p : ByteArray × Int => p.1) ?_
    rwa [List.map_map]
  have hcn : cs.Nodup := nodup_of_map (fun p : ByteArray × Int => p.1) hc.nd
  have h2 : cs.Perm ((pickN D.ch 4).map fun j => (nameB j, D.cv j)) := (List.perm_ext_iff_of_nodup hcn hn2).2 fun p => by
    constructor
    · intro hp
      obtain ⟨j, hj, hcj, rfl⟩ := hkk p hp
      exact List.mem_map.2 ⟨j, by unfold pickN; simp [List.mem_filter, hj, hcj], rfl⟩
    · intro hp
      obtain ⟨j, hj, rfl⟩ := List.mem_map.1 hp
      obtain ⟨hj4, hcj⟩ := pickN_lt hj
      have hl := cut_look D H I J J2 J3 X cs hc j hj4
      rw [if_pos hcj] at hl
      exact lookI_mem hl
  refine (h2.flatMap_right _).trans (List.Perm.of_eq ?_)
  rw [List.flatMap_map]
  unfold pickN LD.want
  rw [flatMap_filter_range]
  rfl
end Go.Proofs.Ybulkdfze
