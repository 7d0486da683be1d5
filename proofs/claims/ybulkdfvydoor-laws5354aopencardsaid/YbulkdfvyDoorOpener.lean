import Derived.Test.YbulkdfvyDoorOpen
import Derived.Lib.Strings
import Derived.Lib.Slices
import Derived.Lib.Walk
import Derived.Lib.Bytes
import Derived.Deep.DeepFit
namespace Go.Proofs.YbulkdfvyDoor
open Go Go.RowKit

theorem Rd.lt {w : World} {ao : Option Addr} {xs : List Value} (h : Rd w ao xs) (hne : xs ≠ []) (x : Addr) (hx : ao = some x) : x.block < w.heap.size := by
  obtain ⟨u, r, rfl⟩ := List.exists_cons_of_ne_nil hne
  have := block_lt_of_cell (h.2 x hx 0 u rfl)
  have hadd : (x.add 0).block = x.block := by unfold Addr.add; split <;> rfl
  omega
theorem Keep.rd2 {S : List Nat} {w w1 : World} (h : Keep S w w1) {ao : Option Addr} {xs : List Value} (hr : Rd w ao xs) (hg : xs ≠ [] → ∀ x, ao = some x → x.block ∉ S) : Rd w1 ao xs := by
  by_cases hne : xs = []
  · subst hne; exact Rd.empty _ _
  · exact h.rd hr (hg hne)

set_option maxHeartbeats 400000 in
theorem appendAD_any (F n cp lc cc : Nat) (ca : Option Addr) (fx cx : List Value) (w : World) (hF : Blk w F 5 fx) (hc : Rd w ca cx) (lcx : cx.length = lc) (oc : ∀ u ∈ cx, u.oneCell' = true)
    (hcp : 3 + lc ≤ cp) (hfx : n + 3 + lc ≤ fx.length) (sc : cx ≠ [] → ∀ x, ca = some x → x.block ≠ F) :
    Calls Ybad.prog 6 #[.slice (some ⟨F, n, none⟩) 0 cp, .slice ca lc cc] w fun e w' =>
      e = .returned (.slice (some ⟨F, n, none⟩) (3 + lc) cp) ∧ Keep [F] w w' ∧ Blk w' F 5 (splice (splice fx n [.int .u8 75, .int .u8 70, .int .u8 1]) (n + 3) cx) := by
  obtain ⟨i0, hi, hz0, hz1, hz2⟩ := info_parts info5
  go_enter Ybad.func6, Ybad.ntmps6
  go_wp2_with (at_builtin; refine halt ?_)
  refine unhalt ?_
  refine wpList_app_room _ rfl (.tmp 5) (.tmp 6) 22 rfl 5 i0 Ybad.underlying22 hi hz1 F n 0 cp rfl (some ⟨w.heap.size, 0, none⟩) 3 3 rfl fx [.int .u8 75, .int .u8 70, .int .u8 1] (hF.alloc _) (Rd.of_blk (Blk.new w #[.int .u8 75, .int .u8 70, .int .u8 1] 5) 0 _ (by simp)) rfl (ints_oneCell .u8 [75, 70, 1]) (by omega) (by omega) ?_
  intro w1 hF1 hg1 hs1
  have k1 : Keep [F] w w1 := ((Keep.refl [F] w).alloc _).grown hg1 (by simp)
  have hl1 : (splice fx n [.int .u8 75, .int .u8 70, .int .u8 1]).length = fx.length := length_splice _ _ _ (by simp; omega)
  clear hg1 hs1
  simp only [Nat.add_zero] at hF1
  go_wp2_with (at_builtin; refine halt ?_)
  refine unhalt ?_
  refine wpList_app_room _ rfl (.tmp 8) (.tmp 9) 22 rfl 5 i0 Ybad.underlying22 hi hz1 F n 3 cp rfl ca lc cc rfl _ cx hF1 (k1.rd2 hc (by simpa using sc)) lcx oc (by omega) (by rw [hl1]; omega) ?_
  intro w2 hF2 hg2 hs2
  have k2 : Keep [F] w w2 := k1.grown hg2 (by simp)
  clear hg2 hs2
  go_wp2
  go_ret
  exact ⟨rfl, k2, hF2⟩

theorem splice_ad (n lc : Nat) (z a b c : Value) (cx : List Value) (h : cx.length = lc) : splice (splice (List.replicate (n + 3 + lc) z) n [a, b, c]) (n + 3) cx = List.replicate n z ++ ([a, b, c] ++ cx) := by
  have e1 : splice (List.replicate (n + 3 + lc) z) n [a, b, c] = (List.replicate n z ++ [a, b, c]) ++ List.replicate lc z := by
    unfold splice
    rw [List.take_replicate, List.drop_replicate, show min n (n + 3 + lc) = n from by omega, show n + 3 + lc - (n + [a, b, c].length) = lc from by simp]
    simp
  rw [e1]
  unfold splice
  rw [List.take_append_of_le_length (by simp), List.take_of_length_le (by simp), List.drop_append]
  simp [h]

theorem method_open (a : Addr) (w : World) : (method 168 23 (.pointer (some a)) "Open").run Ybad.prog w = .ok (23, .pointer (some a)) w := by kernel_rfl

theorem Logged.low {B B' : Nat} {w' : World} {A : Nat} {front fail : Bool} {k : Int} {nx cx dx : List Value} (h : Logged B w' A front fail k nx cx dx) (hB : B' ≤ B) : Logged B' w' A front fail k nx cx dx := by
  obtain ⟨g1, c1, g2, c2, g3, c3, h0, h1, h2, h3, b1, b2, b3⟩ := h
  exact ⟨g1, c1, g2, c2, g3, c3, h0, h1, h2, h3, by omega, by omega, by omega⟩

theorem open_true {w : World} {A F n st : Nat} {front : Bool} {k : Int} {nx dx fx : List Value} {cz : List Int} {f : Nat} {args : Array Value} (h : Calls Ybad.prog f args w (OpenOut w A F n st front true k nx dx fx cz)) :
    Calls Ybad.prog f args w fun e w' => (∃ p, e = .returned (.tuple #[.slice none 0 0, .iface 39 p])) ∧ Hid (Logged w.heap.size w' A front true k nx (cz.map (Value.int .u8)) dx ∧ Keep [A, F] w w') := by
  refine h.mono fun e w' h => ?_
  obtain ⟨h1, h2, ⟨_, h3⟩ | ⟨h3, _⟩⟩ := h
  · exact ⟨h3, h1, h2⟩
  · cases h3
theorem open_false {w : World} {A F n st : Nat} {front : Bool} {k : Int} {nx dx fx : List Value} {cz : List Int} {f : Nat} {args : Array Value} (h : Calls Ybad.prog f args w (OpenOut w A F n st front false k nx dx fx cz)) :
    Calls Ybad.prog f args w fun e w' => e = .returned (.tuple #[.slice (some ⟨F, 0, none⟩) n n, .nilIface]) ∧ Hid (Logged w.heap.size w' A front false k nx (cz.map (Value.int .u8)) dx ∧ Keep [A, F] w w' ∧ Blk w' F 5 (((cz.drop st).take n).map (fun z => Value.int .u8 (bits .xor .u8 z k)) ++ fx.drop n)) := by
  refine h.mono fun e w' h => ?_
  obtain ⟨h1, h2, ⟨h3, _⟩ | ⟨_, h3, h4⟩⟩ := h
  · cases h3
  · exact ⟨h3, h1, h2, h4⟩

/-- What (*dataOpener).open leaves. -/
def OpenerOut (w : World) (A n na : Nat) (front fail : Bool) (k : Int) (cx : List Value) (sz : List Int) (ev : Value) (e : Ending) (w' : World) : Prop :=
  Logged w.heap.size w' A front fail k ((sz.take na).map (Value.int .u8)) ((sz.drop na).map (Value.int .u8)) ([.int .u8 75, .int .u8 70, .int .u8 1] ++ cx) ∧ Keep [A] w w' ∧
    ((fail = true ∧ e = .returned (.tuple #[.slice none 0 0, ev])) ∨
     (fail = false ∧ ∃ F, w.heap.size ≤ F ∧ e = .returned (.tuple #[.slice (some ⟨F, 0, none⟩) n n, .nilIface]) ∧ Rd w' (some ⟨F, 0, none⟩) (((sz.drop 12).take n).map (fun z => Value.int .u8 (bits .xor .u8 z k)))))

set_option maxHeartbeats 400000 in
theorem opener_front (O A S L C n lc cc : Nat) (fail : Bool) (k : Int) (ca : Option Addr) (sz : List Int) (cx : List Value) (ev : Value) (w : World)
    (hO : Blk w O 30 [.iface 23 (.pointer (some ⟨A, 0, none⟩)), .int .i64 0])
    (hA : Blk w A 25 [.bool true, .bool fail, .int .u8 k, .int .i64 0, .slice none 0 0, .slice none 0 0, .slice none 0 0])
    (hS : Rd w (some ⟨S, 0, none⟩) (sz.map (Value.int .u8))) (lsz : sz.length = L) (hLC : L ≤ C) (hL1 : n + 28 ≤ L) (hL2 : L ≤ n + 28) (bL : L ≤ 50000) (bC : C ≤ 50000)
    (hc : Rd w ca cx) (lcx : cx.length = lc) (oc : ∀ u ∈ cx, u.oneCell' = true) (blc : lc ≤ 50000)
    (hE : w.cell? ⟨0, 0, none⟩ = some ev) (sA : S ≠ A) (lS : S < w.heap.size) (oA : O ≠ A) (eA : 0 ≠ A) :
    Calls Ybad.prog 4 #[.pointer (some ⟨O, 0, none⟩), .slice (some ⟨S, 0, none⟩) L C, .slice ca lc cc] w (OpenerOut w A n 0 true fail k cx sz ev) := by
  obtain ⟨i0, hi, hz0, hz1, hz2⟩ := info_parts info5
  go_enter Ybad.func4, Ybad.ntmps4
  go_wp2_with (at_make; refine halt ?_)
  refine unhalt ?_
  refine wpList_mk _ rfl (.tmp 17) (.tmp 22) 22 rfl 5 i0 (.int .u8 0) Ybad.underlying22 hi hz0 hz1 rfl .i64 .i64 _ _ n (n + 3 + lc) rfl rfl (by omega) (by omega) (by omega) (by rw [hz2]; omega) (by unfold maxLen; omega) ?_
  intro w1 hF1 hg1 hs1
  have k1 : Keep [] w w1 := (Keep.refl [] w).grown hg1 (by simp)
  clear hg1
  have hs1' : w.heap.size < w1.heap.size := by omega
  clear hs1
  go_wp2_with (go_at_call 6; refine halt ?_)
  refine unhalt ?_
  have e1 : L - 12 - 16 = n := by omega
  have e2 : (L : Int) - 12 - 16 = (n : Int) := by omega
  have e3 : n + 3 + lc - n = 3 + lc := by omega
  simp only [e1, e2, e3, Nat.sub_self]
  clear e1 e2 e3
  refine (appendAD_any w.heap.size n (3 + lc) lc cc ca _ cx w1 hF1 (k1.rd hc (by simp)) lcx oc (Nat.le_refl _) (by simp) (fun hne x hx => Nat.ne_of_lt (hc.lt hne x hx))).mono ?_
  rintro e w2 ⟨rfl, k2, hF2⟩
  have k12 : Keep [] w w2 := k1.trans k2 (by simp)
  have hO2 := k12.blk hO (by simp)
  have hA2 := k12.blk hA (by simp)
  have hS2 := k12.rd hS (by simp)
  have hs2 : w.heap.size < w2.heap.size := hF2.lt
  have o0 := hO2.cell 0
  have o1 := hO2.cell 1
  simp at o0 o1
  go_wp2_with fail
  have b1 : (0 : Int) ≤ (n : Int) := by omega
  have b2 : (n : Int) ≤ (n : Int) + 3 + (lc : Int) := by omega
  have b3 : (12 : Int) ≤ (L : Int) := by omega
  have b4 : (L : Int) ≤ (C : Int) := by omega
  have b5 : (12 : Int) ≤ (C : Int) := by omega
  have b6 : (0 : Int) ≤ (L : Int) := by omega
  have b7 : (0 : Int) ≤ (C : Int) := by omega
  rw [splice_ad _ _ _ _ _ _ _ lcx] at hF2
  have hD2 : Rd w2.drew (some ⟨w.heap.size, n, none⟩) ([.int .u8 75, .int .u8 70, .int .u8 1] ++ cx) := by
    refine Rd.of_blk (Blk.drew hF2) n _ fun j u hj => ?_
    rw [List.getElem?_append_right (by simp)]
    simpa using hj
  have lA := hA.lt
  have lO := hO.lt
  have sF : S ≠ w.heap.size := by omega
  have hFl : w.heap.size ∉ [A] := by simp; omega
  have hm := method_open ⟨A, 0, none⟩
  have oD : ∀ u ∈ ([.int .u8 75, .int .u8 70, .int .u8 1] ++ cx : List Value), u.oneCell' = true := by
    intro u hu
    rcases List.mem_append.1 hu with h | h
    · exact ints_oneCell .u8 [75, 70, 1] u h
    · exact oc u h
  have hSn : ∀ a b : Nat, a + b ≤ L → Rd w2.drew (some ⟨S, a, none⟩) (((sz.drop a).take b).map (Value.int .u8)) := by
    intro a b hab
    refine ⟨fun h => (by cases h), fun x hx j u hj => ?_⟩
    cases hx
    have hjl := (List.getElem?_eq_some_iff.1 hj).1
    have := hS2.2 _ rfl (a + j) u (by
      rw [List.getElem?_map, List.getElem?_take, List.getElem?_drop] at hj
      split at hj
      · rw [List.getElem?_map]; exact hj
      · cases hj)
    rw [Addr.add_lit] at this ⊢
    simpa using this
  have hSd : ∀ a : Nat, a ≤ L → Rd w2.drew (some ⟨S, a, none⟩) ((sz.drop a).map (Value.int .u8)) := by
    intro a ha
    have := hSn a (L - a) (by omega)
    rwa [List.take_of_length_le (by simp; omega)] at this
  have hOS : O ∉ [A, w.heap.size] := by simp; omega
  have hES : 0 ∉ [A, w.heap.size] := by simp; omega
  have hE2 := k12.cell hE (by simp)
  have hs2' : w.heap.size ≤ w2.drew.heap.size := Nat.le_of_lt hs2
  have hT : ∀ k, k ∈ [A, w.heap.size] → k < w.heap.size → k ∈ [A] := by
    intro k hk hlt
    simp at hk
    rcases hk with h | h
    · simp [h]
    · omega
  by_cases hfail : fail = true
  · subst hfail
    have HX := unhalt (open_true (open_any A w.heap.size S 0 true true k n (some ⟨S, 0, none⟩) (some ⟨w.heap.size, n, none⟩) 0 C L C (3 + lc) (3 + lc) [] ([.int .u8 75, .int .u8 70, .int .u8 1] ++ cx) _ sz w2.drew hA2 hF2 (by simp)
      (Rd.empty _ _) hS2 hD2 rfl lsz (by simp; omega) (by simp) oD (by omega) (by omega) (by omega) (by simpa using sA) sA (by simp; omega) sF (by omega) 12 (.inl ⟨rfl, rfl⟩) (by omega) (by omega)))
    go_region_held3 (fun w' => w'.cell? ⟨O, 0, none⟩ = some (.iface 23 (.pointer (some ⟨A, 0, none⟩))) ∧ w'.cell? ⟨O, 1, none⟩ = some (.int .i64 ((0 : Nat) : Int))) (go_keep) ((go_at_call 23; refine HX.out.mono ?_; rintro e w3 ⟨⟨pp, rfl⟩, H3⟩; have q1 := H3.out.2.cell (a := ⟨O, 0, none⟩) o0 hOS; have q2 := H3.out.2.cell (a := ⟨O, 1, none⟩) o1 hOS))
    have hE3 := H3.out.2.cell (a := ⟨0, 0, none⟩) hE2 hES
    clear HX o0 o1 q1 q2
    go_wp2
    go_region
    all_goals go_wp2
    all_goals go_ret2
    all_goals exact ⟨(H3.out.1.low hs2').kept ((Keep.refl [] w3).drew) (by simp) (by simp), (k12.drew.mono (by simp) |>.trans H3.out.2 hT).drew, .inl ⟨rfl, rfl⟩⟩
  · obtain rfl : fail = false := by simpa using hfail
    have HX := unhalt (open_false (open_any A w.heap.size S 0 true false k n (some ⟨S, 0, none⟩) (some ⟨w.heap.size, n, none⟩) 0 C L C (3 + lc) (3 + lc) [] ([.int .u8 75, .int .u8 70, .int .u8 1] ++ cx) _ sz w2.drew hA2 hF2 (by simp)
      (Rd.empty _ _) hS2 hD2 rfl lsz (by simp; omega) (by simp) oD (by omega) (by omega) (by omega) (by simpa using sA) sA (by simp; omega) sF (by omega) 12 (.inl ⟨rfl, rfl⟩) (by omega) (by omega)))
    go_region_held3 (fun w' => w'.cell? ⟨O, 0, none⟩ = some (.iface 23 (.pointer (some ⟨A, 0, none⟩))) ∧ w'.cell? ⟨O, 1, none⟩ = some (.int .i64 ((0 : Nat) : Int))) (go_keep) ((go_at_call 23; refine HX.out.mono ?_; rintro e w3 ⟨rfl, H3⟩; have q1 := H3.out.2.1.cell (a := ⟨O, 0, none⟩) o0 hOS; have q2 := H3.out.2.1.cell (a := ⟨O, 1, none⟩) o1 hOS))
    clear HX o0 o1 q1 q2
    go_wp2
    go_ret2
    refine ⟨H3.out.1.low hs2', k12.drew.mono (by simp) |>.trans H3.out.2.1 hT, .inr ⟨rfl, w.heap.size, Nat.le_refl _, rfl, Rd.of_blk H3.out.2.2 0 _ ?_⟩⟩
    intro j u hj
    rw [Nat.zero_add, List.getElem?_append_left (List.getElem?_eq_some_iff.1 hj).1]
    exact hj
end Go.Proofs.YbulkdfvyDoor
