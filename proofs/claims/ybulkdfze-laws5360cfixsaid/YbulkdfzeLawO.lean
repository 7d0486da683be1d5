import Derived.Test.YbulkdfzeLawDD
import Derived.Deep.SlicePairs
namespace Go.Proofs.Ybulkdfze
open Go Go.RowKit Go.Lib Go.Shelf
/-- What lies at a place. -/
def boolAt (l : List Value) (k : Nat) : Bool := match l[k]? with | some (.bool b) => b | _ => false
def intAt (l : List Value) (k : Nat) : Int := match l[k]? with | some (.int _ n) => n | _ => 0
def isU8 (v : Value) : Prop := ∃ n, v = .int .u8 n ∧ 0 ≤ n ∧ n < 256
theorem u8_of {P : Program} {t : TypeId} (ht : P.underlying t = some (.int .u8)) {w : World} {r : Reach} {base : Nat} {v : Value} (h : Cell.okWide P w r base t v) : isU8 v := by
  unfold Cell.okWide Cell.ok at h
  rw [ht] at h
  cases v <;> simp at h
  obtain ⟨rfl, h⟩ := h
  refine ⟨_, rfl, ?_⟩
  have h1 := h.1
  have h2 := h.2
  simp [IntKind.min, IntKind.max, IntKind.bits, IntKind.signed] at h1 h2
  omega
theorem bool_of {P : Program} {t : TypeId} (ht : P.underlying t = some .bool) {w : World} {r : Reach} {base : Nat} {v : Value} (h : Cell.okWide P w r base t v) : ∃ b, v = .bool b := by
  unfold Cell.okWide Cell.ok at h
  rw [ht] at h
  cases v <;> simp at h
  exact ⟨_, rfl⟩
theorem agg_of {P : Program} {t : TypeId} {n : Nat} {e : TypeId} (ht : P.underlying t = some (.array n e)) {w : World} {r : Reach} {base : Nat} {v : Value} (h : Value.okWide P w r base t v) : ∃ cs, v = .agg cs ∧ cs.size = P.cellsOf t ∧ Row.okWide P w r base t cs := by
  unfold Value.okWide at h
  rw [ht] at h
  exact h
theorem ct26 : Yba.prog.cellTypes Yba.prog.depth 26 = some [4, 4, 4, 4, 4, 4, 4, 5, 5, 5, 5, 4, 4, 4, 4, 4, 4, 4, 5, 5, 5, 5, 4, 4, 4, 4, 4, 4, 4, 5, 5, 5, 5, 4, 4, 4, 4, 4, 4, 4, 5, 5, 5, 5] := by kernel_rfl
theorem ct23 : Yba.prog.cellTypes Yba.prog.depth 23 = some [5, 5, 5, 5] := by kernel_rfl
theorem cells26 : Yba.prog.cellsOf 26 = 44 := by kernel_rfl
theorem cells60 : Yba.prog.cellsOf 60 = 2 := by kernel_rfl
theorem cells5 : Yba.prog.cellsOf 5 = 1 := by kernel_rfl
theorem cells23 : Yba.prog.cellsOf 23 = 4 := by kernel_rfl
set_option maxRecDepth 1000000 in
/-- The reports, as they come in. -/
theorem open_reps {w : World} {r : Reach} {base : Nat} {v : Value} (h : Value.okWide Yba.prog w r base 26 v) :
    ∃ cs : Array Value, v = .agg cs ∧ (∀ (k : Nat) u, cs.toList[k]? = some u → (∃ b, u = .bool b) ∨ isU8 u) ∧ ∀ i, i < 4 → cs.toList[i * 11]? = some (.bool (boolAt cs.toList (i * 11))) ∧ cs.toList[i * 11 + 1]? = some (.bool (boolAt cs.toList (i * 11 + 1))) ∧ cs.toList[i * 11 + 2]? = some (.bool (boolAt cs.toList (i * 11 + 2))) ∧
      ∀ j, j < 4 → cs.toList[i * 11 + 3 + j]? = some (.bool (boolAt cs.toList (i * 11 + 3 + j))) ∧ cs.toList[i * 11 + 7 + j]? = some (.int .u8 (intAt cs.toList (i * 11 + 7 + j))) := by
  obtain ⟨cs, rfl, hsz, ts, hts, _, hall⟩ := agg_of Yba.underlying26 h
  rw [ct26] at hts
  cases hts
  rw [cells26] at hsz
  have key : ∀ (k : Nat) u, cs.toList[k]? = some u → ∃ t, ([4, 4, 4, 4, 4, 4, 4, 5, 5, 5, 5, 4, 4, 4, 4, 4, 4, 4, 5, 5, 5, 5, 4, 4, 4, 4, 4, 4, 4, 5, 5, 5, 5, 4, 4, 4, 4, 4, 4, 4, 5, 5, 5, 5] : List TypeId)[k]? = some t ∧ Cell.okWide Yba.prog w r base t u := fun k u hk => by
    have hk' : cs[k]? = some u := by simpa using hk
    have hlt : k < cs.size := (Array.getElem?_eq_some_iff.1 hk').1
    obtain ⟨t, h1, h2⟩ := hall k u hk'
    refine ⟨t, ?_, h2⟩
    rw [← h1]
    congr 1
    simp only [List.length_cons, List.length_nil]
    omega
  have lt : ∀ k, k < 44 → ∃ u, cs.toList[k]? = some u := fun k hk => ⟨cs.toList[k]'(by simp; omega), List.getElem?_eq_getElem _⟩
  have isB : ∀ k, k < 44 → ([4, 4, 4, 4, 4, 4, 4, 5, 5, 5, 5, 4, 4, 4, 4, 4, 4, 4, 5, 5, 5, 5, 4, 4, 4, 4, 4, 4, 4, 5, 5, 5, 5, 4, 4, 4, 4, 4, 4, 4, 5, 5, 5, 5] : List TypeId)[k]? = some 4 → cs.toList[k]? = some (.bool (boolAt cs.toList k)) := fun k hk h4 => by
    obtain ⟨u, hu⟩ := lt k hk
    obtain ⟨t, h1, h2⟩ := key k u hu
    rw [h4] at h1
    cases h1
    obtain ⟨b, rfl⟩ := bool_of Yba.underlying4 h2
    rw [hu]
    simp [boolAt, hu]
  have isI : ∀ k, k < 44 → ([4, 4, 4, 4, 4, 4, 4, 5, 5, 5, 5, 4, 4, 4, 4, 4, 4, 4, 5, 5, 5, 5, 4, 4, 4, 4, 4, 4, 4, 5, 5, 5, 5, 4, 4, 4, 4, 4, 4, 4, 5, 5, 5, 5] : List TypeId)[k]? = some 5 → cs.toList[k]? = some (.int .u8 (intAt cs.toList k)) := fun k hk h4 => by
    obtain ⟨u, hu⟩ := lt k hk
    obtain ⟨t, h1, h2⟩ := key k u hu
    rw [h4] at h1
    cases h1
    obtain ⟨n, rfl, _⟩ := u8_of Yba.underlying5 h2
    rw [hu]
    simp [intAt, hu]
  refine ⟨cs, rfl, fun k u hk => ?_, fun i hi => ?_⟩
  · obtain ⟨t, h1, h2⟩ := key k u hk
    have ht : t = 4 ∨ t = 5 := by
      have := List.mem_of_getElem? h1
      simp at this
      rcases this with h | h | h | h | h | h | h | h <;> simp [h]
    rcases ht with rfl | rfl
    · exact .inl (bool_of Yba.underlying4 h2)
    · exact .inr (u8_of Yba.underlying5 h2)
  · have hi' : i = 0 ∨ i = 1 ∨ i = 2 ∨ i = 3 := by omega
    refine ⟨isB _ (by omega) ?_, isB _ (by omega) ?_, isB _ (by omega) ?_, fun j hj => ?_⟩
    · rcases hi' with rfl | rfl | rfl | rfl <;> rfl
    · rcases hi' with rfl | rfl | rfl | rfl <;> rfl
    · rcases hi' with rfl | rfl | rfl | rfl <;> rfl
    · have hj' : j = 0 ∨ j = 1 ∨ j = 2 ∨ j = 3 := by omega
      refine ⟨isB _ (by omega) ?_, isI _ (by omega) ?_⟩
      · rcases hi' with rfl | rfl | rfl | rfl <;> rcases hj' with rfl | rfl | rfl | rfl <;> rfl
      · rcases hi' with rfl | rfl | rfl | rfl <;> rcases hj' with rfl | rfl | rfl | rfl <;> rfl
set_option maxRecDepth 1000000 in
/-- The numbers of copies, as they come in. -/
theorem open_kn {w : World} {r : Reach} {base : Nat} {v : Value} (h : Value.okWide Yba.prog w r base 23 v) :
    ∃ f : Nat → Int, v = .agg #[.int .u8 (f 0), .int .u8 (f 1), .int .u8 (f 2), .int .u8 (f 3)] ∧ ∀ i, 0 ≤ f i ∧ f i < 256 := by
  obtain ⟨cs, rfl, hsz, ts, hts, _, hall⟩ := agg_of Yba.underlying23 h
  rw [ct23] at hts
  cases hts
  rw [cells23] at hsz
  have one : ∀ k, k < 4 → ∃ n, cs[k]? = some (.int .u8 n) ∧ 0 ≤ n ∧ n < 256 := fun k hk => by
    have hu : cs[k]? = some (cs[k]'(by omega)) := Array.getElem?_eq_getElem (by omega)
    obtain ⟨t, h1, h2⟩ := hall k _ hu
    have ht : t = 5 := by
      have := List.mem_of_getElem? h1
      simpa using this
    subst ht
    obtain ⟨n, h3, h4⟩ := u8_of Yba.underlying5 h2
    exact ⟨n, by rw [hu, h3], h4⟩
  obtain ⟨n0, a0, b0⟩ := one 0 (by omega)
  obtain ⟨n1, a1, b1⟩ := one 1 (by omega)
  obtain ⟨n2, a2, b2⟩ := one 2 (by omega)
  obtain ⟨n3, a3, b3⟩ := one 3 (by omega)
  refine ⟨fun i => if i = 0 then n0 else if i = 1 then n1 else if i = 2 then n2 else n3, ?_, fun i => ?_⟩
  · congr 1
    apply Array.ext (by simpa using hsz)
    intro i h1 h2
    have hi : i = 0 ∨ i = 1 ∨ i = 2 ∨ i = 3 := by omega
    have hg : cs[i]? = some cs[i] := Array.getElem?_eq_getElem h1
    rcases hi with rfl | rfl | rfl | rfl
    · rw [a0] at hg; exact (Option.some.inj hg).symm
    · rw [a1] at hg; exact (Option.some.inj hg).symm
    · rw [a2] at hg; exact (Option.some.inj hg).symm
    · rw [a3] at hg; exact (Option.some.inj hg).symm
  · dsimp only
    split
    · exact b0
    · split
      · exact b1
      · split
        · exact b2
        · exact b3
theorem intAt_fits {l : List Value} (h : ∀ (k : Nat) u, l[k]? = some u → (∃ b, u = .bool b) ∨ isU8 u) (k : Nat) : 0 ≤ intAt l k ∧ intAt l k < 256 := by
  unfold intAt
  cases hk : l[k]? with
  | none => simp
  | some u =>
    rcases h k u hk with ⟨b, rfl⟩ | ⟨n, rfl, h1, h2⟩
    · simp
    · exact ⟨h1, h2⟩
theorem hcells_len : ∀ l : List (Int × Int), (hcells l).length = 2 * l.length
  | [] => rfl
  | p :: r => by
    have := hcells_len r
    show (hcells r).length + 1 + 1 = _
    simp only [List.length_cons]
    omega
set_option maxRecDepth 1000000 in
/-- What is held, as it comes in. -/
theorem open_held {H : Type} {enc : TypeId × Value → H} {w : World} {base : Nat} {sp : Nat → Bool} {hd : Bool} {fuel : Nat} {ao : Option Addr} {len cap : Nat} {x : DataW H × List MemPlace} (h : DataW.trod enc Yba.prog w base sp hd fuel 27 [.slice ao len cap] = some x) :
    ∃ l : List (Int × Int), l.length = len ∧ (∀ p ∈ l, (0 ≤ p.1 ∧ p.1 < 256) ∧ 0 ≤ p.2 ∧ p.2 < 256) ∧ Rd w ao (hcells l) := by
  rcases Go.Deep.open_slice_pairs Yba.underlying27 Yba.underlying60 cells60 rfl rfl cells5 cells5 h with ⟨hcs, _⟩ | ⟨a, len', cap', m, n, V0, V1, D0, D1, P0, P1, hcs, _, hl, _, hm, _, hall⟩
  · simp at hcs
    obtain ⟨rfl, rfl, rfl⟩ := hcs
    exact ⟨[], rfl, by simp, Rd.empty _ _⟩
  · simp at hcs
    obtain ⟨rfl, rfl, rfl⟩ := hcs
    have hlm : len ≤ m := by rw [hm]; split <;> omega
    have each : ∀ i, i < len → ∃ q : Int × Int, (0 ≤ q.1 ∧ q.1 < 256) ∧ (0 ≤ q.2 ∧ q.2 < 256) ∧ w.cell? (a.add (i * 2)) = some (.int .u8 q.1) ∧ w.cell? (a.add (i * 2 + 1)) = some (.int .u8 q.2) := fun i hi => by
      obtain ⟨h1, h2, h3, h4⟩ := hall i (by omega)
      obtain ⟨n0, e0, _, f0⟩ := DataW.trod_int Yba.underlying5 h3
      obtain ⟨n1, e1, _, f1⟩ := DataW.trod_int Yba.underlying5 h4
      simp at e0 e1
      rw [e0] at h1
      rw [e1] at h2
      simp [Lit.wf, IntKind.min, IntKind.max, IntKind.bits, IntKind.signed] at f0 f1
      exact ⟨(n0, n1), by omega, by omega, h1, h2⟩
    obtain ⟨q, hq⟩ := Go.Deep.choose_lt each
    refine ⟨(List.range len).map q, by simp, fun p hp => ?_, fun h => (by cases h), fun x hx j u hj => ?_⟩
    · obtain ⟨i, hi, rfl⟩ := List.mem_map.1 hp
      obtain ⟨h1, h2, _⟩ := hq i (List.mem_range.1 hi)
      exact ⟨h1, h2⟩
    · cases hx
      have hlt : j / 2 < len := by
        by_cases h : j / 2 < len
        · exact h
        · exfalso
          have hl2 : (hcells ((List.range len).map q)).length = 2 * len := by rw [hcells_len]; simp
          have := (List.getElem?_eq_some_iff.1 hj).1
          omega
      obtain ⟨_, _, h3, h4⟩ := hq _ hlt
      have hg := hcells_get (l := (List.range len).map q) (j := j / 2) (q := q (j / 2)) (by simp [hlt])
      have : j = j / 2 * 2 ∨ j = j / 2 * 2 + 1 := by omega
      rcases this with e | e
      · rw [e] at hj ⊢
        rw [hg.1] at hj
        cases hj
        exact h3
      · rw [e] at hj ⊢
        rw [hg.2] at hj
        cases hj
        exact h4
end Go.Proofs.Ybulkdfze
