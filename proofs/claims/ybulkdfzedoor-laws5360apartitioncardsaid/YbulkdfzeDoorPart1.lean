import Derived.RangeFuncNested
import Derived.RangeFuncBound
import Derived.RangeFuncCalls
import Derived.RangeFuncLeaves
import Derived.Shelf.Abstract
import Derived.Shelf.RegionOpen
import Derived.Sort.QuietIn
import Derived.Stop.RegionWithIn
import Derived.WalkKit
import Derived.OwnWalkIn
import Derived.TacticsInMore
import Derived.LoopNIn
import Derived.LoopIn
import Derived.Test.YbulkdfzeDoorStop
namespace Go.Proofs.YbulkdfzeDoor
open Go Go.RowKit

set_option maxHeartbeats 1000000 in
theorem iter_part (l m E V g B n : Nat) (vs : ByteArray) (ds : List Nat) (w : World) (T : List Nat) (J : Nat → World → Prop) (hn : n ≤ 512) (ld : ds.length = n) (hd : ∀ d ∈ ds, d ≤ 458759) (hE : Ents w g B ds)
    (hv : w.cell? ⟨0, 0, none⟩ = some (.int .i64 262144)) 
    (hEb : Blk w E 23 [.slice (some ⟨g, 0, none⟩) n n]) (hV : w.cell? ⟨V, 0, none⟩ = some (.string vs))
    (gT : g ∉ E :: T) (VT : V ∉ E :: T) (zT : 0 ∉ E :: T) (ET : E ∉ T)
    (hJ : ∀ p W W', J p W → Keep [E] W W' → J p W')
    (hY : ∀ p k W, J p W → Keep (E :: T) w W → 1 ≤ k → p + k ≤ n → Hid (∃ d, ds[p]? = some d ∧ k = 1 + fits d (ds.drop (p + 1))) → YieldAt Fence.wide (m - 1) Ybad.prog l #[.agg #[.string vs, .slice (some ⟨g, p * 4, none⟩) k k]] W (fun e W' => e = .returned (.bool true) ∧ J (p + k) W' ∧ Keep T W W'))
    (h0 : J 0 w) :
    CallsIn Fence.wide m Ybad.prog 9 #[.func (.yield l) #[] #[], .pointer (some ⟨E, 0, none⟩), .pointer (some ⟨V, 0, none⟩)] w
      (fun e w' => e = .returned (.tuple #[]) ∧ J n w') := by
  refine callsIn_of_wp Ybad.func9 rfl trivial ?_ rfl
  simp only [Ybad.ntmps9, List.size_toArray, List.length_cons, List.length_nil, Nat.reduceAdd, Nat.reduceSub, Array.replicate_succ, Array.replicate_zero, List.push_toArray, List.append_toArray, List.nil_append, List.cons_append]
  gi_wp2
  gi_loopw [4] (fun _ wr => ∃ p r o : Nat, p + r ≤ n ∧ n ≤ p + r ∧ Hid (0 < r → o = p * 4) ∧ Blk wr E 23 [.slice (some ⟨g, o, none⟩) r r] ∧ J p wr ∧ Keep (E :: T) w wr) (fun _ wr => leftIn E wr)
  case atStart => exact ⟨0, n, 0, by omega, by omega, fun _ => rfl, hEb, h0, Keep.refl _ _⟩
  case round =>
    obtain ⟨p, r, o, hp1, hp2, HO, hEr, hJr, kr⟩ := hrel
    have e0 := hEr.cell 0
    simp only [List.getElem?_cons_zero] at e0
    have v0 := kr.cell hV VT
    have g0 := kr.cell hv zT
    have hEr2 := hE.keep kr gT
    have HL : Hid (leftIn E wr = r) := by unfold Hid leftIn; rw [e0]
    by_cases hpl : 0 < r
    · obtain rfl := HO.out hpl
      obtain ⟨d, hdi⟩ : ∃ d, ds[p]? = some d := ⟨ds[p]'(by omega), List.getElem?_eq_getElem (by omega)⟩
      have cd := (hEr2 p d hdi).2
      have hdl := hd d (List.mem_of_getElem? hdi)
      gi_wp2
      gi_quiet (fail)
      gi_wp2
      gi_loopw [4, 5] (fun u v wq => ∃ k t : Nat, 1 ≤ k ∧ k ≤ r ∧ t ≤ 458759 ∧ u = .int .i64 k ∧ v = .int .i64 t ∧ Hid (p + 1 + fits d (ds.drop (p + 1)) = p + k + fits t (ds.drop (p + k))) ∧ Keep [] wr wq) (fun u _ _ => r - (intOf u).toNat)
      case atStart => exact ⟨1, d, Nat.le_refl _, by omega, hdl, rfl, rfl, by simp [Hid], (Keep.refl _ _).drewN _⟩
      case round =>
        obtain ⟨k, t, hk1, hk2, ht, rfl, rfl, HF, kr2⟩ := hrel
        have e1 := kr2.cell e0 (by simp)
        have g1 := kr2.cell g0 (by simp)
        by_cases hkl : k < r
        · obtain ⟨d2, hd2⟩ : ∃ d, ds[p + k]? = some d := ⟨ds[p + k]'(by omega), List.getElem?_eq_getElem (by omega)⟩
          have hdl2 := hd d2 (List.mem_of_getElem? hd2)
          have cd2 := kr2.cell (hEr2 (p + k) d2 hd2).2 (by simp)
          rw [Nat.add_mul] at cd2
          have hf := fits_at hd2 t
          by_cases hfit : t + d2 ≤ 262144
          · rw [if_pos hfit] at hf
            have HF2 : Hid (p + 1 + fits d (ds.drop (p + 1)) = p + (k + 1) + fits (t + d2) (ds.drop (p + (k + 1)))) := by
              have := HF.out; unfold Hid; rw [← Nat.add_assoc]; omega
            have q1 : (t : Int) + (d2 : Int) ≤ 262144 := by omega
            have q3 : (k : Int) < (r : Int) := by omega
            have q2 : decide ((t : Int) + (d2 : Int) ≤ 262144) = true := decide_eq_true (by omega)
            have q4 : decide ((k : Int) < (r : Int)) = true := decide_eq_true (by omega)
            clear HF hf
            gi_wp2
            gi_quiet (fail)
            have k3 := kr2.drewN nq
            gi_wp2
            go_roundw
            case rel => exact ⟨k + 1, t + d2, by omega, by omega, by omega, by go_num, by go_num, HF2, k3⟩
            case measure => simp [intOf]; omega
          · rw [if_neg hfit] at hf
            have HJ : Hid (p + 1 + fits d (ds.drop (p + 1)) = p + k) := by
              have := HF.out; unfold Hid; omega
            have q1 : ¬ (t : Int) + (d2 : Int) ≤ 262144 := by omega
            have q3 : (k : Int) < (r : Int) := by omega
            have q2 : decide ((t : Int) + (d2 : Int) ≤ 262144) = false := decide_eq_false (by omega)
            have q4 : decide ((k : Int) < (r : Int)) = true := decide_eq_true (by omega)
            clear HF hf hfit
            gi_wp2
            gi_quiet (fail)
            have k4 := kr2.drewN nq
            generalize wr.drewN nq = w5 at k4 ⊢
            have v1 := k4.cell v0 (by simp)
            have hE4 := k4.blk hEr (by simp)
            have e4 := hE4.cell 0
            simp only [List.getElem?_cons_zero] at e4
            have k05 : Keep (E :: T) w w5.drew := (kr.trans k4 (by simp)).drew
            have hJ5 : J p w5.drew := hJ _ _ _ hJr (k4.drew.mono (by simp))
            obtain ⟨fn, tmps, assign, body, hy, hR⟩ := hY p k w5.drew hJ5 k05 hk1 (by omega) ⟨d, hdi, by have := HJ.out; omega⟩
            have HR := unhalt hR
            clear hR
            gi_wp2
            gi_region_with (refine ⟨fun h => absurd h (by simp [Fence.wide]), HR.out.mono ?_⟩; rintro e w3 ⟨rfl, hJ3, k3⟩)
            all_goals (
              have hE5 := k3.blk hE4.drew ET
              have e5 := hE5.cell 0
              simp only [List.getElem?_cons_zero] at e5
              have fe5 := hE5.free 0
              have k06 : Keep (E :: T) w w3 := k05.trans k3 (fun k hk _ => by simp [hk])
              clear k3 k05 k4 kr2 kr HR e4 v1 hE4 hy
              gi_wp2
              refine ⟨⟨p + k, r - k, p * 4 + k * 4, by omega, by omega, by unfold Hid; omega, ?_, hJ _ _ _ hJ3 ((Keep.refl [E] w3).setCell _ _ (by simp)), k06.setCell _ _ (by simp)⟩, ?_⟩
              · have := hE5.set 0 (.slice (some ⟨g, p * 4 + k * 4, none⟩) (r - k) (r - k))
                simpa using this
              · have hl := HL.out
                have h2 : leftIn E (w3.setCell ⟨E, 0, none⟩ (.slice (some ⟨g, p * 4 + k * 4, none⟩) (r - k) (r - k))) = r - k := by
                  unfold leftIn
                  have := (hE5.set 0 (.slice (some ⟨g, p * 4 + k * 4, none⟩) (r - k) (r - k))).cell 0
                  simp at this
                  rw [this]
                rw [hl, h2]
                omega)
        · have hf : fits t (ds.drop (p + k)) = 0 := by rw [List.drop_eq_nil_of_le (by omega)]; rfl
          have HJ : Hid (p + 1 + fits d (ds.drop (p + 1)) = p + k) := by
            have := HF.out; unfold Hid; omega
          have q3 : ¬ (k : Int) < (r : Int) := by omega
          have q4 : decide ((k : Int) < (r : Int)) = false := decide_eq_false (by omega)
          clear HF hf
          gi_wp2
          gi_quiet (fail)
          have k4 := kr2.drewN nq
          generalize wr.drewN nq = w5 at k4 ⊢
          have v1 := k4.cell v0 (by simp)
          have hE4 := k4.blk hEr (by simp)
          have e4 := hE4.cell 0
          simp only [List.getElem?_cons_zero] at e4
          have k05 : Keep (E :: T) w w5.drew := (kr.trans k4 (by simp)).drew
          have hJ5 : J p w5.drew := hJ _ _ _ hJr (k4.drew.mono (by simp))
          obtain ⟨fn, tmps, assign, body, hy, hR⟩ := hY p k w5.drew hJ5 k05 hk1 (by omega) ⟨d, hdi, by have := HJ.out; omega⟩
          have HR := unhalt hR
          clear hR
          gi_wp2
          gi_region_with (refine ⟨fun h => absurd h (by simp [Fence.wide]), HR.out.mono ?_⟩; rintro e w3 ⟨rfl, hJ3, k3⟩)
          all_goals (
            have hE5 := k3.blk hE4.drew ET
            have e5 := hE5.cell 0
            simp only [List.getElem?_cons_zero] at e5
            have fe5 := hE5.free 0
            have k06 : Keep (E :: T) w w3 := k05.trans k3 (fun k hk _ => by simp [hk])
            clear k3 k05 k4 kr2 kr HR e4 v1 hE4 hy
            gi_wp2
            refine ⟨⟨p + k, r - k, p * 4, by omega, by omega, by unfold Hid; omega, ?_, hJ _ _ _ hJ3 ((Keep.refl [E] w3).setCell _ _ (by simp)), k06.setCell _ _ (by simp)⟩, ?_⟩
            · have := hE5.set 0 (.slice (some ⟨g, p * 4, none⟩) (r - k) (r - k))
              simpa using this
            · have hl := HL.out
              have h2 : leftIn E (w3.setCell ⟨E, 0, none⟩ (.slice (some ⟨g, p * 4, none⟩) (r - k) (r - k))) = r - k := by
                unfold leftIn
                have := (hE5.set 0 (.slice (some ⟨g, p * 4, none⟩) (r - k) (r - k))).cell 0
                simp at this
                rw [this]
              rw [hl, h2]
              omega)
    · have hpn : p = n := by omega
      gi_wp2
      go_end0
      exact ⟨rfl, hpn ▸ hJr⟩
end Go.Proofs.YbulkdfzeDoor
