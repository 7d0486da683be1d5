import Derived.Test.YbulkdfzeDoorCount
namespace Go.Proofs.YbulkdfzeDoor
open Go Go.RowKit

theorem yield_stop (C S : Nat) (vs : ByteArray) (ao : Option Addr) (k kc : Nat) (c s : Nat) (w : World) (hC : Blk w C 3 [.int .i64 c]) (hS : w.cell? ⟨S, 0, none⟩ = some (.int .i64 s)) (hCS : C ≠ S) (hc : c ≤ 1000) :
    Calls Ybad.prog 8 #[.agg #[.string vs, .slice ao k kc], .pointer (some ⟨C, 0, none⟩), .pointer (some ⟨S, 0, none⟩)] w
      (fun e w' => e = .returned (.bool (decide (c + 1 < s))) ∧ Blk w' C 3 [.int .i64 (c + 1 : Nat)] ∧ Keep [C] w w') := by
  have c0 := hC.cell 0
  have f0 := hC.free 0
  simp at c0
  have lC := hC.lt
  have lS := block_lt_of_cell hS
  go_enter Ybad.func8, Ybad.ntmps8
  go_wp2
  refine bodyPost_ret (v := .bool (decide ((c : Int) + 1 < (s : Int)))) (by simp [results, Ybad.results8, go_sem]) rfl ⟨?_, ?_, ?_⟩
  · have e : decide ((c : Int) + 1 < (s : Int)) = decide (c + 1 < s) := decide_eq_decide.2 (by omega)
    rw [e]
  · have := (hC.set 0 (.int .i64 ((c : Int) + 1))).alloc (.cells #[.string vs, .slice ao k kc] 30)
    simpa using this
  · exact ((Keep.refl [C] w).setCell _ _ (by simp)).alloc _

/-- How many entries are left in the box. -/
def leftIn (E : Nat) (w : World) : Nat :=
  match w.cell? ⟨E, 0, none⟩ with
  | some (.slice _ n _) => n
  | _ => 0

set_option maxHeartbeats 1000000 in
theorem iter_stop (C S E V g B n : Nat) (vs : ByteArray) (ds : List Nat) (s : Nat) (w : World) (hn : n ≤ 512) (ld : ds.length = n) (hd : ∀ d ∈ ds, d ≤ 458759) (hE : Ents w g B ds)
    (hv : w.cell? ⟨0, 0, none⟩ = some (.int .i64 262144)) (hC : Blk w C 3 [.int .i64 0]) (hS : w.cell? ⟨S, 0, none⟩ = some (.int .i64 s)) (hs0 : 1 ≤ s) (hs : s ≤ 4)
    (hEb : Blk w E 23 [.slice (some ⟨g, 0, none⟩) n n]) (hV : w.cell? ⟨V, 0, none⟩ = some (.string vs))
    (gC : g ≠ C) (gE : g ≠ E) (CS : C ≠ S) (ES : S ≠ E) (CE : C ≠ E) (VC : V ≠ C) (VE : V ≠ E) (zC : 0 ≠ C) (zE : 0 ≠ E) :
    Calls Ybad.prog 9 #[.func (.func 8) #[] #[.pointer (some ⟨C, 0, none⟩), .pointer (some ⟨S, 0, none⟩)], .pointer (some ⟨E, 0, none⟩), .pointer (some ⟨V, 0, none⟩)] w
      (fun e w' => e = .returned (.tuple #[]) ∧ w'.cell? ⟨C, 0, none⟩ = some (.int .i64 (min s (nships ds) : Nat)) ∧ Keep [C, E] w w') := by
  go_enter Ybad.func9, Ybad.ntmps9
  go_wp2
  go_loopw [4] (fun _ wr => ∃ p r c o : Nat, p + r ≤ n ∧ n ≤ p + r ∧ c ≤ p ∧ c < s ∧ Hid (0 < r → o = p * 4) ∧ Blk wr E 23 [.slice (some ⟨g, o, none⟩) r r] ∧ Blk wr C 3 [.int .i64 c] ∧ Hid (nships ds = c + nships (ds.drop p)) ∧ Keep [C, E] w wr) (fun _ wr => leftIn E wr)
  case atStart => exact ⟨0, n, 0, 0, by omega, by omega, Nat.le_refl _, by omega, fun _ => rfl, hEb, hC, by simp [Hid], Keep.refl _ _⟩
  case round =>
    obtain ⟨p, r, c, o, hp1, hp2, hcp, hcs, HO, hEr, hCr, HN, kr⟩ := hrel
    have e0 := hEr.cell 0
    simp only [List.getElem?_cons_zero] at e0
    have v0 := kr.cell hV (by simp [VC, VE])
    have g0 := kr.cell hv (by simp [zC, zE])
    have s0 := kr.cell hS (by simp [CS.symm, ES])
    have hEr2 := hE.keep kr (by simp [gC, gE])
    have HL : Hid (leftIn E wr = r) := by unfold Hid leftIn; rw [e0]
    by_cases hpl : 0 < r
    · obtain rfl := HO.out hpl
      obtain ⟨d, hdi⟩ : ∃ d, ds[p]? = some d := ⟨ds[p]'(by omega), List.getElem?_eq_getElem (by omega)⟩
      have cd := (hEr2 p d hdi).2
      have hdl := hd d (List.mem_of_getElem? hdi)
      go_wp2
      go_quiet (fail)
      go_wp2
      go_loopw [4, 5] (fun u v wq => ∃ k t : Nat, 1 ≤ k ∧ k ≤ r ∧ t ≤ 458759 ∧ u = .int .i64 k ∧ v = .int .i64 t ∧ Hid (p + 1 + fits d (ds.drop (p + 1)) = p + k + fits t (ds.drop (p + k))) ∧ Keep [] wr wq) (fun u _ _ => r - (intOf u).toNat)
      case atStart => exact ⟨1, d, Nat.le_refl _, by omega, hdl, rfl, rfl, by simp [Hid], (Keep.refl _ _).drewN _⟩
      case round =>
        obtain ⟨k, t, hk1, hk2, ht, rfl, rfl, HF, kr2⟩ := hrel
        have e1 := kr2.cell e0 (by simp)
        have g1 := kr2.cell g0 (by simp)
        by_cases hkl : k < r
        · obtain ⟨d2, hd2⟩ : ∃ d, ds[p + k]? = some d := ⟨ds[p + k]'(by omega), List.getElem?_eq_getElem (by omega)⟩
          have hdl2 := hd d2 (List.mem_of_getElem? hd2)
          have cd2 := kr2.cell (hEr2 (p + k) d2 hd2).2 (by simp)
          rw [Nat.add_mul] at cd2
          have hf := fits_at hd2 t
          by_cases hfit : t + d2 ≤ 262144
          · rw [if_pos hfit] at hf
            have HF2 : Hid (p + 1 + fits d (ds.drop (p + 1)) = p + (k + 1) + fits (t + d2) (ds.drop (p + (k + 1)))) := by
              have := HF.out; unfold Hid; rw [← Nat.add_assoc]; omega
            have q1 : (t : Int) + (d2 : Int) ≤ 262144 := by omega
            have q3 : (k : Int) < (r : Int) := by omega
            have q2 : decide ((t : Int) + (d2 : Int) ≤ 262144) = true := decide_eq_true (by omega)
            have q4 : decide ((k : Int) < (r : Int)) = true := decide_eq_true (by omega)
            clear HF hf
            go_wp2
            go_quiet (fail)
            have k3 := kr2.drewN nq
            go_wp2
            go_roundw
            case rel => exact ⟨k + 1, t + d2, by omega, by omega, by omega, by go_num, by go_num, HF2, k3⟩
            case measure => simp [intOf]; omega
          · rw [if_neg hfit] at hf
            have HJ : Hid (p + 1 + fits d (ds.drop (p + 1)) = p + k) := by
              have := HF.out; unfold Hid; omega
            have q1 : ¬ (t : Int) + (d2 : Int) ≤ 262144 := by omega
            have q3 : (k : Int) < (r : Int) := by omega
            have q2 : decide ((t : Int) + (d2 : Int) ≤ 262144) = false := decide_eq_false (by omega)
            have q4 : decide ((k : Int) < (r : Int)) = true := decide_eq_true (by omega)
            clear HF hf hfit
            go_wp2
            go_quiet (fail)
            have k4 := kr2.drewN nq
            generalize wr.drewN nq = w5 at k4 ⊢
            have s1 := k4.cell s0 (by simp)
            have v1 := k4.cell v0 (by simp)
            have hC4 := k4.blk hCr (by simp)
            have hE4 := k4.blk hEr (by simp)
            have e4 := hE4.cell 0
            simp only [List.getElem?_cons_zero] at e4
            have HN2 : Hid (nships ds = (c + 1) + nships (ds.drop (p + k))) := by
              have h1 := HN.out
              have h2 := HJ.out
              rw [nships_at hdi, h2] at h1
              unfold Hid; omega
            have k05 := kr.trans k4 (by simp)
            have HX := unhalt (yield_stop C S vs (some ⟨g, p * 4, none⟩) k k c s w5.drew hC4 s1 CS (by omega))
            have ec : ∃ b, decide (c + 1 < s) = b ∧ Hid (b = decide (c + 1 < s)) := ⟨_, rfl, rfl⟩
            obtain ⟨b, hb, HB⟩ := ec
            rw [hb] at HX
            clear hb
            go_wp2
            go_region_held3 (fun w' => w'.cell? ⟨V, 0, none⟩ = some (.string vs) ∧ w'.cell? ⟨E, 0, none⟩ = some (.slice (some ⟨g, p * 4, none⟩) r r)) (go_keep) ((go_at_call 8; refine HX.out.mono ?_; rintro e w3 ⟨rfl, hC3, k3⟩; have q1 := k3.cell (a := ⟨V, 0, none⟩) v1 (by simpa using VC); have q2 := k3.cell (a := ⟨E, 0, none⟩) e4 (by simpa using CE.symm)))
            have hE5 := k3.blk hE4.drew (by simpa using CE.symm)
            have fe5 := hE5.free 0
            have k06 : Keep [C, E] w w3 := k05.drew.trans k3 (by simp)
            clear k3 k05 k4 kr2 kr HX e4 v1 s1 hC4 hE4
            cases b with
            | true =>
              have hcs1 : c + 1 < s := by have := HB.out; simpa using this.symm
              go_wp2
              refine ⟨⟨p + k, r - k, c + 1, p * 4 + k * 4, by omega, by omega, by omega, hcs1, by unfold Hid; omega, ?_, ?_, HN2, k06.setCell _ _ (by simp)⟩, ?_⟩
              · have := hE5.set 0 (.slice (some ⟨g, p * 4 + k * 4, none⟩) (r - k) (r - k))
                simpa using this
              · exact hC3.set_other _ _ CE
              · have hl := HL.out
                have h2 : leftIn E (w3.setCell ⟨E, 0, none⟩ (.slice (some ⟨g, p * 4 + k * 4, none⟩) (r - k) (r - k))) = r - k := by
                  unfold leftIn
                  have := (hE5.set 0 (.slice (some ⟨g, p * 4 + k * 4, none⟩) (r - k) (r - k))).cell 0
                  simp at this
                  rw [this]
                rw [hl, h2]
                omega
            | false =>
              have hcs1 : ¬ c + 1 < s := by have := HB.out; simpa using this.symm
              have h1 := HN2.out
              have c3 := hC3.cell 0
              go_wp2
              exact bodyPost_ret (v := .tuple #[]) (by simp [results, Ybad.results9, go_sem]) rfl ⟨rfl, by rw [h1, Nat.min_eq_left (by omega)]; rw [c3]; simp; omega, k06⟩
        · have hf : fits t (ds.drop (p + k)) = 0 := by rw [List.drop_eq_nil_of_le (by omega)]; rfl
          have HJ : Hid (p + 1 + fits d (ds.drop (p + 1)) = p + k) := by
            have := HF.out; unfold Hid; omega
          have q3 : ¬ (k : Int) < (r : Int) := by omega
          have q4 : decide ((k : Int) < (r : Int)) = false := decide_eq_false (by omega)
          clear HF hf
          go_wp2
          go_quiet (fail)
          have k4 := kr2.drewN nq
          generalize wr.drewN nq = w5 at k4 ⊢
          have s1 := k4.cell s0 (by simp)
          have v1 := k4.cell v0 (by simp)
          have hC4 := k4.blk hCr (by simp)
          have hE4 := k4.blk hEr (by simp)
          have e4 := hE4.cell 0
          simp only [List.getElem?_cons_zero] at e4
          have HN2 : Hid (nships ds = (c + 1) + nships (ds.drop (p + k))) := by
            have h1 := HN.out
            have h2 := HJ.out
            rw [nships_at hdi, h2] at h1
            unfold Hid; omega
          have k05 := kr.trans k4 (by simp)
          have HX := unhalt (yield_stop C S vs (some ⟨g, p * 4, none⟩) k k c s w5.drew hC4 s1 CS (by omega))
          have ec : ∃ b, decide (c + 1 < s) = b ∧ Hid (b = decide (c + 1 < s)) := ⟨_, rfl, rfl⟩
          obtain ⟨b, hb, HB⟩ := ec
          rw [hb] at HX
          clear hb
          go_wp2
          go_region_held3 (fun w' => w'.cell? ⟨V, 0, none⟩ = some (.string vs) ∧ w'.cell? ⟨E, 0, none⟩ = some (.slice (some ⟨g, p * 4, none⟩) r r)) (go_keep) ((go_at_call 8; refine HX.out.mono ?_; rintro e w3 ⟨rfl, hC3, k3⟩; have q1 := k3.cell (a := ⟨V, 0, none⟩) v1 (by simpa using VC); have q2 := k3.cell (a := ⟨E, 0, none⟩) e4 (by simpa using CE.symm)))
          have hE5 := k3.blk hE4.drew (by simpa using CE.symm)
          have fe5 := hE5.free 0
          have k06 : Keep [C, E] w w3 := k05.drew.trans k3 (by simp)
          clear k3 k05 k4 kr2 kr HX e4 v1 s1 hC4 hE4
          cases b with
          | true =>
            have hcs1 : c + 1 < s := by have := HB.out; simpa using this.symm
            go_wp2
            refine ⟨⟨p + k, r - k, c + 1, p * 4, by omega, by omega, by omega, hcs1, by unfold Hid; omega, ?_, ?_, HN2, k06.setCell _ _ (by simp)⟩, ?_⟩
            · have := hE5.set 0 (.slice (some ⟨g, p * 4, none⟩) (r - k) (r - k))
              simpa using this
            · exact hC3.set_other _ _ CE
            · have hl := HL.out
              have h2 : leftIn E (w3.setCell ⟨E, 0, none⟩ (.slice (some ⟨g, p * 4, none⟩) (r - k) (r - k))) = r - k := by
                unfold leftIn
                have := (hE5.set 0 (.slice (some ⟨g, p * 4, none⟩) (r - k) (r - k))).cell 0
                simp at this
                rw [this]
              rw [hl, h2]
              omega
          | false =>
            have hcs1 : ¬ c + 1 < s := by have := HB.out; simpa using this.symm
            have h1 := HN2.out
            have c3 := hC3.cell 0
            go_wp2
            exact bodyPost_ret (v := .tuple #[]) (by simp [results, Ybad.results9, go_sem]) rfl ⟨rfl, by rw [h1, Nat.min_eq_left (by omega)]; rw [c3]; simp; omega, k06⟩
    · have hf : nships (ds.drop p) = 0 := by rw [List.drop_eq_nil_of_le (by omega), nships_nil]
      have HM : Hid (nships ds = c) := by have := HN.out; unfold Hid; omega
      clear hf HN
      go_wp2
      go_end0
      have h1 := HM.out
      have c0 := hCr.cell 0
      rw [h1, Nat.min_eq_right (by omega)]
      exact ⟨rfl, by simpa using c0, kr⟩
end Go.Proofs.YbulkdfzeDoor
