import Derived.Test.YbulkdfzeLawDE
namespace Go.Proofs.Ybulkdfze
open Go Go.RowKit Go.Lib Go.Shelf

/-- Which member has the name m. -/
def idxB (m : ByteArray) : Nat := if m = nameB 0 then 0 else if m = nameB 1 then 1 else if m = nameB 2 then 2 else if m = nameB 3 then 3 else 4
theorem idxB_name (i : Nat) (h : i < 4) : idxB (nameB i) = i := by
  have : i = 0 ∨ i = 1 ∨ i = 2 ∨ i = 3 := by omega
  rcases this with rfl | rfl | rfl | rfl <;> decide
def namesOf (l : List Nat) : List ByteArray := l.map nameB

structure LX where
  (SB DB NB E YB XB : Nat)
  (ec : List Value)

def mkFD (D : LD) (I : LI) (J : LB) (J2 : LC) (J3 : LH) (X : LX) : FixD where
  E := X.E
  N := X.NB
  SB := X.SB
  DB := X.DB
  HR := J3.HR
  YB := X.YB
  XB := X.XB
  RB := J.RB
  KM := J2.KM
  nn := I.nn
  ncap := I.nc
  on := I.on
  ocap := I.oc
  n := D.held.length
  nao := I.nao
  oao := I.oao
  ec := X.ec
  view := vone
  self := nameB (D.self % 5).toNat
  v2 := ⟨#[118, 50]⟩
  v0 := vzero
  ns := namesOf (pickN D.N 4)
  os := namesOf (pickN D.O 4)
  rkvs := D.reps J.LBf 4
  kkvs := D.kkvs J2.KB 4
  pres := fun m => decide (idxB m < 4) && D.pr (idxB m)
  gu := fun m => D.gu (idxB m)
  old := fun m => D.old (idxB m)
  lasts := fun m => if idxB m < 4 then D.lstj (idxB m) 4 else []
  kc := fun m => cOf (idxB m)
  kn := fun m => D.kk (idxB m)
  hs := J3.hs

theorem at_kvs {k : Nat} (hk : k < 4) (g : Nat → Value) : ∀ (l : List Nat) (s : Nat), (∀ i ∈ l, i < 4) → (at? (nameB k) (l.map fun i => (nameB i, g i)) s).map (·.2) = if k ∈ l then some (g k) else none
  | [], _, _ => rfl
  | a :: r, s, h => by
    simp only [List.map_cons, at?]
    by_cases e : nameB k = nameB a
    · have : k = a := nameB_inj (by omega) (by have := h a (by simp); omega) e
      rw [if_pos e, this]; simp
    · have hne : k ≠ a := fun h => e (by rw [h])
      rw [if_neg e, at_kvs hk g r (s + 1) (fun i hi => h i (by simp [hi]))]
      simp [hne]
theorem look_kvs {k : Nat} (hk : k < 4) (g : Nat → Value) (f : Nat → Bool) : look (nameB k) ((pickN f 4).map fun i => (nameB i, g i)) = if f k = true then some (g k) else none := by
  unfold look
  rw [at_kvs hk g (pickN f 4) 0 (fun i hi => by unfold pickN at hi; simpa using (List.mem_filter.1 hi).1)]
  have : k ∈ pickN f 4 ↔ f k = true := by unfold pickN; simp [List.mem_filter, hk]
  by_cases h : f k = true
  · rw [if_pos (this.2 h), if_pos h]
  · rw [if_neg (fun e => h (this.1 e)), if_neg h]
theorem pickN_lt {f : Nat → Bool} {j i : Nat} (h : i ∈ pickN f j) : i < j ∧ f i = true := by
  unfold pickN at h
  have := List.mem_filter.1 h
  exact ⟨by simpa using this.1, this.2⟩
theorem mem_names {f : Nat → Bool} {m : ByteArray} (h : m ∈ namesOf (pickN f 4)) : ∃ i, i < 4 ∧ f i = true ∧ m = nameB i := by
  obtain ⟨i, hi, rfl⟩ := List.mem_map.1 h
  exact ⟨i, (pickN_lt hi).1, (pickN_lt hi).2, rfl⟩
theorem owns_len {w : World} {base : Nat} {e : TypeId} {k n m : Nat} {ao : Option Addr} {c : Nat} {xs : List Value} (h : w.ownsRow base e k (.slice ao m c) n xs) : m = n := by
  rcases h.2 with ⟨h1, h2⟩ | ⟨g, cap, cur, h1, _⟩
  · cases h1; omega
  · cases h1; rfl

theorem names_nodup : ∀ (l : List Nat), (∀ i ∈ l, i < 4) → l.Nodup → (l.map nameB).Nodup
  | [], _, _ => by simp
  | a :: r, h, hd => by
    simp only [List.nodup_cons, List.map_cons] at hd ⊢
    refine ⟨fun hm => ?_, names_nodup r (fun i hi => h i (by simp [hi])) hd.2⟩
    obtain ⟨b, hb, e⟩ := List.mem_map.1 hm
    have := nameB_inj (by have := h b (by simp [hb]); omega) (by have := h a (by simp); omega) e
    exact hd.1 (this ▸ hb)

/-- What stands ahead of the call of 'fix'. -/
theorem fixin (D : LD) (H : D.Ok) (I : LI) (J : LB) (J2 : LC) (J3 : LH) (X : LX) (w : World) (HF : FA D I w) (HB : FB D J w) (HC : FC D J2 w) (HD : FD D J3 w)
    (hE : Blk w X.E 109 X.ec) (hN : Blk w X.NB 86 [.string ⟨#[118, 50]⟩, .slice I.nao I.nn I.nc, .string ⟨#[76]⟩, .int .u64 1, .int .u64 1, .slice none 0 0, .map none]) (hS : Blk w X.SB 65 [.slice none 0 0]) (hDB : Blk w X.DB 66 [.slice none 0 0])
    (hY : w.heap[X.YB]? = some (.map #[{ key := chV, val := .agg #[.map (some J.RB), .map (some X.XB)], born := 0 }] 1)) (hec : EcOk X.ec (nameB (D.self % 5).toNat) X.SB X.DB J2.KM X.YB J3.HR D.held.length X.NB I.on I.oc I.oao) : FixIn (mkFD D I J J2 J3 X) w := by
  have hOn := owns_len HF.hOM
  have hNn := owns_len HF.hNN
  have hOM' := HF.hOM
  rw [hOn] at hOM'
  have hNN' := HF.hNN
  rw [hNn] at hNN'
  obtain ⟨rO, fO⟩ := owns_rd hOM'
  obtain ⟨rN, fN⟩ := owns_rd hNN'
  have hstr : ∀ l, (namesOf l).map Value.string = strs l := fun l => by simp [namesOf, strs, List.map_map, Function.comp_def]
  have typed : ∀ {v : Value} {nn : Nat} {xs : List Value}, w.ownsRow D.w0.heap.size 9 1 v nn xs → ∀ g, v.ownBlock = some g → g ∉ [X.NB, X.E, X.SB, X.DB, J3.HR] := fun ho g hg => by
    obtain ⟨c, fr, ht⟩ := (owns_lt ho g hg).2
    have ne : ∀ {b e cs}, Blk w b e cs → e ≠ 9 → g ≠ b := fun hb he h => by subst h; have := hb.symm.trans ht; cases this; exact he rfl
    simp only [List.mem_cons, List.not_mem_nil, or_false, not_or]
    exact ⟨ne hN (by decide), ne hE (by decide), ne hS (by decide), ne hDB (by decide), ne HD.hHR (by decide)⟩
  have l4 : ∀ f, (pickN f 4).length ≤ 4 := fun f => pickN_len f 4
  refine { hE := hE, hN := hN, hSB := hS, hDB := hDB, hHR := HD.hHR, hY := hY, hR := HB.hRB, hK := HC.hKM, e0 := hec.e0, e6 := hec.e6, e7 := hec.e7, e12 := hec.e12, e13 := hec.e13, e27 := hec.e27, e41 := hec.e41, e42 := hec.e42, e43 := hec.e43, e49 := hec.e49, e50 := hec.e50, hns := ?_, hos := ?_, lns := ?_, los := ?_, nn4 := ?_, on4 := ?_, nfar := ?_, ofar := ?_, hrep := ?_, hv0 := (by decide : vzero ≠ vone), lnd := ?_, lnn := ?_, hkept := ?_, hkn := ?_, hvw := (by decide : vone.size < 10), hmsg := ?_, hn := HD.lhs, hn2 := H.lheld }
  · show Rd w I.nao ((namesOf (pickN D.N 4)).map Value.string); rw [hstr]; exact rN
  · show Rd w I.oao ((namesOf (pickN D.O 4)).map Value.string); rw [hstr]; exact rO
  · show (namesOf _).length = I.nn; simp [namesOf, hNn]
  · show (namesOf _).length = I.on; simp [namesOf, hOn]
  · show I.nn ≤ 4; rw [hNn]; exact l4 _
  · show I.on ≤ 4; rw [hOn]; exact l4 _
  · intro x hx
    refine ⟨(fN x hx).2, typed HF.hNN x.block ?_⟩
    have hx' : I.nao = some x := hx
    rw [hx']; rfl
  · intro x hx
    refine ⟨(fO x hx).2, typed HF.hOM x.block ?_⟩
    have hx' : I.oao = some x := hx
    rw [hx']; rfl
  · intro m hm
    obtain ⟨i, hi, _, rfl⟩ := mem_names hm
    show (look (nameB i) (D.reps J.LBf 4) = none ∧ (decide (idxB (nameB i) < 4) && D.pr (idxB (nameB i))) = false) ∨ (∃ LB, look (nameB i) (D.reps J.LBf 4) = some (repV (if D.gu (idxB (nameB i)) = true then ⟨#[103]⟩ else ⟨#[]⟩) (if D.old (idxB (nameB i)) = true then vone else vzero) LB) ∧ (decide (idxB (nameB i) < 4) && D.pr (idxB (nameB i))) = true ∧ Mp w LB (cutKvs (if idxB (nameB i) < 4 then D.lstj (idxB (nameB i)) 4 else [])))
    rw [idxB_name i hi]
    have hl := look_kvs hi (fun k => repV (D.gB k) (D.vB k) (J.LBf k)) D.pr
    cases hp : D.pr i with
    | false => rw [hp] at hl; exact .inl ⟨hl, by simp⟩
    | true =>
      rw [hp, if_pos rfl] at hl
      exact .inr ⟨J.LBf i, hl, by simp [hi], by rw [if_pos hi]; exact HB.hLB i hi hp⟩
  · intro m
    show ((if idxB m < 4 then D.lstj (idxB m) 4 else []).map (·.1)).Nodup
    split
    · have hm : (D.lstj (idxB m) 4).map (·.1) = (pickN (D.has (idxB m)) 4).map nameB := by simp [LD.lstj, List.map_map, Function.comp_def]
      rw [hm]
      exact names_nodup _ (fun i hi => (pickN_lt hi).1) (List.nodup_range.filter _)
    · simp
  · intro m p hp
    have hp' : p ∈ (if idxB m < 4 then D.lstj (idxB m) 4 else []) := hp
    split at hp'
    · unfold LD.lstj at hp'
      obtain ⟨k, hk, rfl⟩ := List.mem_map.1 hp'
      have := H.hsq (idxB m) k
      exact ⟨by simp only; omega, by show (nameB k).size < 10; rw [nameB_size]; omega⟩
    · cases hp'
  · intro s hs
    obtain ⟨i, hi, _, rfl⟩ := mem_names hs
    show (look (nameB i) (D.kkvs J2.KB 4) = none ∧ D.kk (idxB (nameB i)) = 0) ∨ ∃ K, look (nameB i) (D.kkvs J2.KB 4) = some (.pointer (some ⟨K, 0, none⟩)) ∧ Copies w K (cOf (idxB (nameB i))) (D.kk (idxB (nameB i)))
    rw [idxB_name i hi]
    have hl := look_kvs hi (fun k => .pointer (some ⟨J2.KB k, 0, none⟩)) D.hask
    cases hp : D.hask i with
    | false =>
      rw [hp] at hl
      refine .inl ⟨hl, ?_⟩
      unfold LD.hask at hp
      simpa using hp
    | true =>
      rw [hp, if_pos rfl] at hl
      exact .inr ⟨J2.KB i, hl, HC.hKB i hi hp⟩
  · intro s
    show D.kk (idxB s) ≤ 8
    have := D.kk_lt (idxB s)
    omega
  · intro p hp
    obtain ⟨k, hk⟩ := List.mem_iff_getElem?.1 hp
    have hk' : J3.hs[k]? = some p := hk
    have hkl : k < D.held.length := by have h1 := (List.getElem?_eq_some_iff.1 hk').1; have h2 := HD.lhs; omega
    obtain ⟨h1, h2, h3, h4, mb, h5, h6⟩ := HD.hok k p _ hk (List.getElem?_eq_getElem hkl)
    rw [h5]
    refine ⟨Rd.of_blk h6 0 _ (fun j u hj => by simpa using hj), h6.lt, ?_⟩
    show mb ∉ [X.NB, X.E, X.SB, X.DB, J3.HR]
    simp only [List.mem_cons, List.not_mem_nil, or_false, not_or]
    exact ⟨h6.ne hN (by decide), h6.ne hE (by decide), h6.ne hS (by decide), h6.ne hDB (by decide), h6.ne HD.hHR (by decide)⟩
end Go.Proofs.Ybulkdfze
