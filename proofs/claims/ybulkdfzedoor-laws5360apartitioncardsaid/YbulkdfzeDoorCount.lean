import Derived.Test.YbulkdfzeDoorBuild
namespace Go.Proofs.YbulkdfzeDoor
open Go Go.RowKit

/-- How many more entries fit beside tot bytes. -/
def fits : Nat → List Nat → Nat
  | _, [] => 0
  | tot, d :: ds => if tot + d ≤ 262144 then fits (tot + d) ds + 1 else 0

theorem fits_le (ds : List Nat) : ∀ tot, fits tot ds ≤ ds.length := by
  induction ds with
  | nil => intro tot; simp [fits]
  | cons d ds ih =>
    intro tot
    unfold fits
    split
    · have := ih (tot + d); simp; omega
    · simp

/-- How many shipments there are (the first number bounds the depth). -/
def nshipsF : Nat → List Nat → Nat
  | 0, _ => 0
  | _ + 1, [] => 0
  | k + 1, d :: r => nshipsF k (r.drop (fits d r)) + 1
/-- How many shipments there are. -/
def nships (ds : List Nat) : Nat := nshipsF ds.length ds
theorem nshipsF_eq : ∀ (k m : Nat) (ds : List Nat), ds.length ≤ k → ds.length ≤ m → nshipsF k ds = nshipsF m ds := by
  intro k
  induction k with
  | zero =>
    intro m ds h _
    obtain rfl : ds = [] := by simpa using h
    cases m <;> rfl
  | succ k ih =>
    intro m ds h h2
    cases ds with
    | nil => cases m <;> rfl
    | cons d r =>
      cases m with
      | zero => simp at h2
      | succ m =>
        show nshipsF k (r.drop (fits d r)) + 1 = nshipsF m (r.drop (fits d r)) + 1
        simp only [List.length_cons] at h h2
        rw [ih m (r.drop (fits d r)) (by rw [List.length_drop]; omega) (by rw [List.length_drop]; omega)]
theorem nships_nil : nships [] = 0 := rfl
theorem nships_cons (d : Nat) (r : List Nat) : nships (d :: r) = nships (r.drop (fits d r)) + 1 := by
  show nshipsF r.length (r.drop (fits d r)) + 1 = nshipsF (r.drop (fits d r)).length (r.drop (fits d r)) + 1
  rw [nshipsF_eq r.length (r.drop (fits d r)).length _ (by rw [List.length_drop]; omega) (Nat.le_refl _)]

theorem fits_at {ds : List Nat} {j d : Nat} (h : ds[j]? = some d) (tot : Nat) : fits tot (ds.drop j) = if tot + d ≤ 262144 then fits (tot + d) (ds.drop (j + 1)) + 1 else 0 := by
  obtain ⟨hlt, he⟩ := List.getElem?_eq_some_iff.1 h
  rw [List.drop_eq_getElem_cons hlt, he]; rfl

theorem nships_at {ds : List Nat} {j d : Nat} (h : ds[j]? = some d) : nships (ds.drop j) = nships (ds.drop (j + 1 + fits d (ds.drop (j + 1)))) + 1 := by
  obtain ⟨hlt, he⟩ := List.getElem?_eq_some_iff.1 h
  rw [List.drop_eq_getElem_cons hlt, he, nships_cons, List.drop_drop]

theorem nships_le (ds : List Nat) : nships ds ≤ ds.length := by
  have : ∀ k, ∀ ds : List Nat, ds.length ≤ k → nships ds ≤ ds.length := by
    intro k
    induction k with
    | zero => intro ds h; obtain rfl : ds = [] := by simpa using h
              simp [nships_nil]
    | succ k ih =>
      intro ds h
      cases ds with
      | nil => simp [nships_nil]
      | cons d r =>
        rw [nships_cons]
        have := ih (r.drop (fits d r)) (by simp at h ⊢; omega)
        simp at this ⊢
        omega
  exact this _ ds (Nat.le_refl _)

set_option maxHeartbeats 400000 in
theorem count_any (g B n : Nat) (ds : List Nat) (w : World) (hn : n ≤ 512) (ld : ds.length = n) (hd : ∀ d ∈ ds, d ≤ 458759) (hE : Ents w g B ds)
    (hv : w.cell? ⟨0, 0, none⟩ = some (.int .i64 262144)) :
    Calls Ybad.prog 7 #[.slice (some ⟨g, 0, none⟩) n n] w (fun e w' => e = .returned (.int .i64 (nships ds : Nat)) ∧ Keep [] w w') := by
  go_enter Ybad.func7, Ybad.ntmps7
  go_wp2
  go_loopw [3, 4] (fun u v wr => ∃ m i : Nat, i ≤ n ∧ m ≤ i ∧ u = .int .i64 m ∧ v = .int .i64 i ∧ Hid (nships ds = m + nships (ds.drop i)) ∧ Keep [] w wr) (fun _ v _ => n - (intOf v).toNat)
  case atStart => exact ⟨0, 0, Nat.zero_le _, Nat.le_refl _, rfl, rfl, by simp [Hid], Keep.refl _ _⟩
  case round =>
    obtain ⟨m, i, hi, hm, rfl, rfl, HN, kr⟩ := hrel
    by_cases hil : i < n
    · obtain ⟨d, hdi⟩ : ∃ d, ds[i]? = some d := ⟨ds[i]'(by omega), List.getElem?_eq_getElem (by omega)⟩
      have cd := kr.cell (hE i d hdi).2 (by simp)
      have hdl := hd d (List.mem_of_getElem? hdi)
      go_wp2
      rename_i wq
      go_loopw [5, 6] (fun u v wr => ∃ t j : Nat, i + 1 ≤ j ∧ j ≤ n ∧ t ≤ 458759 ∧ u = .int .i64 t ∧ v = .int .i64 j ∧ Hid (i + 1 + fits d (ds.drop (i + 1)) = j + fits t (ds.drop j)) ∧ Keep [] w wr) (fun _ v _ => n - (intOf v).toNat)
      case atStart => exact ⟨d, i + 1, Nat.le_refl _, by omega, hdl, rfl, by simp, by simp [Hid], kr⟩
      case round =>
        obtain ⟨t, j, hj1, hj2, ht, rfl, rfl, HF, kr2⟩ := hrel
        by_cases hjl : j < n
        · obtain ⟨d2, hd2⟩ : ∃ d, ds[j]? = some d := ⟨ds[j]'(by omega), List.getElem?_eq_getElem (by omega)⟩
          have hdl2 := hd d2 (List.mem_of_getElem? hd2)
          have cd2 := kr2.cell (hE j d2 hd2).2 (by simp)
          have cv := kr2.cell hv (by simp)
          have hf := fits_at hd2 t
          by_cases hfit : t + d2 ≤ 262144
          · rw [if_pos hfit] at hf
            have HF2 : Hid (i + 1 + fits d (ds.drop (i + 1)) = (j + 1) + fits (t + d2) (ds.drop (j + 1))) := by
              have := HF.out; unfold Hid; omega
            have q1 : (t : Int) + (d2 : Int) ≤ 262144 := by omega
            have q2 : decide ((262144 : Int) < (t : Int) + (d2 : Int)) = false := decide_eq_false (by omega)
            clear HF hf
            go_wp2
            go_quiet (fail)
            have k3 := kr2.drewN nq
            have cd3 : (wr.drewN nq).cell? ⟨g, j * 4 + 3, none⟩ = some (.slice (some ⟨B, 0, none⟩) d2 d2) := cd2
            go_wp2
            go_roundw
            case rel => exact ⟨t + d2, j + 1, by omega, by omega, by omega, by go_num, by go_num, HF2, k3⟩
            case measure => simp [intOf]; omega
          · rw [if_neg hfit] at hf
            have HJ : Hid (i + 1 + fits d (ds.drop (i + 1)) = j) := by
              have := HF.out; unfold Hid; omega
            have q2 : decide ((262144 : Int) < (t : Int) + (d2 : Int)) = true := decide_eq_true (by omega)
            have q1 : (262144 : Int) < (t : Int) + (d2 : Int) := by omega
            clear HF hf hfit
            go_wp2
            go_quiet (fail)
            have k3 := kr2.drewN nq
            go_wp2
            have HN2 : Hid (nships ds = (m + 1) + nships (ds.drop j)) := by
              have h1 := HN.out
              have h2 := HJ.out
              rw [nships_at hdi, h2] at h1
              unfold Hid; omega
            exact ⟨⟨m + 1, j, by omega, by omega, by simp, rfl, HN2, k3⟩, by simp [intOf]; omega⟩
        · have hf : fits t (ds.drop j) = 0 := by rw [List.drop_eq_nil_of_le (by omega)]; rfl
          have HJ : Hid (i + 1 + fits d (ds.drop (i + 1)) = j) := by
            have := HF.out; unfold Hid; omega
          clear HF hf
          go_wp2
          have HN2 : Hid (nships ds = (m + 1) + nships (ds.drop j)) := by
            have h1 := HN.out
            have h2 := HJ.out
            rw [nships_at hdi, h2] at h1
            unfold Hid; omega
          exact ⟨⟨m + 1, j, by omega, by omega, by simp, rfl, HN2, kr2⟩, by simp [intOf]; omega⟩
    · have hf : nships (ds.drop i) = 0 := by rw [List.drop_eq_nil_of_le (by omega), nships_nil]
      have HM : Hid (nships ds = m) := by have := HN.out; unfold Hid; omega
      clear hf HN
      go_wp2
      exact bodyPost_ret (v := .int .i64 m) (by simp [results, Ybad.results7, go_sem]) rfl ⟨by rw [HM.out], kr⟩
end Go.Proofs.YbulkdfzeDoor
