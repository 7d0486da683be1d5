/-
  OWN WORK: 'Rows.LawS5360AStopCardSaid': the row out of the walks, and the tied card.
-/
import Derived.Test.YbulkdfzeDoorShut
import Derived.Test.YbulkdfzeDoorStop
namespace Go.Proofs.YbulkdfzeDoor
open Go.ChangeShapes Go.WideShapes Go.ChangeAt Go.RowKit

theorem stop_door_met (os : Os) (args : Array Value) : laidMetH Ybad.prog Rows.lawS5360AStopRow.laid ((World.doorLaid Ybad.prog 400 os).forCall (fun _ _ => 0) ⟨#[], args, []⟩).memory :=
  laidMetH_of_parts3 (fuel := 8) (laidMet_of_run' 8 (by kernel_rfl) (by kernel_rfl)) (by kernel_rfl) (by kernel_rfl)

/-- The law, whatever the input. -/
theorem stop_any (vs : ByteArray) (ao : Option Addr) (n c : Nat) (zs : List Int) (z : Int) (w : World) (lz : zs.length = n) (hr : Rd w ao (zs.map (Value.int .u8))) (hz : ∀ z ∈ zs, 0 ≤ z ∧ z < 256)
    (hv : w.cell? ⟨0, 0, none⟩ = some (.int .i64 262144)) (hz0 : 0 ≤ z) (hz1 : z < 256) :
    Calls Ybad.prog 4 #[.string vs, .slice ao n c, .int .u8 z] w fun e w' => e = .returned (.bool true) ∧ Keep [] w w' := by
  by_cases h : n ≤ 512
  · exact stop_small vs ao n c zs z w h lz hr hz hv hz0 hz1
  · exact stop_big vs ao n c z w (by omega)

set_option maxRecDepth 100000 in
theorem stop_lifted (os : Os) (started : os.Started) (H : Type) (enc : TypeId × Value → H) :
    ReturnsInHanded {} Ybad.checked os 4 .any (fun w args => (Rows.lawS5360AStopSpec.pre enc Ybad.prog Ybad.f4 [] false w args ∧ laidMetH Ybad.prog Rows.lawS5360AStopRow.laid w) ∧ sizedMet enc Ybad.prog Ybad.f4 (OpenSpec.ofChange Rows.lawS5360AStopSpec) false w args)
      (Rows.lawS5360AStopSpec.post enc Ybad.prog Ybad.f4 false true false false) := by
  refine returnsInHanded_of_change_and (C := Ybad.checked) (X := fun w _ => laidMetH Ybad.prog Rows.lawS5360AStopRow.laid w) (fun _ _ _ hh h => h.of_heap hh) own started (by kernel_rfl) Ybad.func4
    (ChangeSpec.witness_shaped (enc := enc) (C := Ybad.checked) (os := os) (X := fun w _ => laidMetH Ybad.prog Rows.lawS5360AStopRow.laid w) false (World.doorLaid Ybad.prog 400 os) #[.string ⟨#[]⟩, .slice none 0 0, .int .u8 0] 8 rfl (World.shaped_of_RefB (by kernel_rfl) (by kernel_rfl)) (by kernel_rfl) (by kernel_rfl) (by kernel_rfl) (stop_door_met os _)) ?_
  intro W base args ds gs before hval0 hW _ _ hL _
  have hval : ∀ (j : Nat) t v, Ybad.f4.params[j]? = some t → args[j]? = some v → Value.okWide Ybad.prog W .any base t v := hval0
  have hW' := hW
  obtain ⟨p, q, hA0, hV0, rfl, hfz, hnd⟩ := hW
  have hA : DataW.TrodAll enc Ybad.prog W 0 (fun _ => true) true Ybad.f4.params.toList args.toList ds p := hA0
  have hV : DataW.TrodVars enc Ybad.prog W (fun _ => true) [shName] gs q := hV0
  rw [Ybad.params4] at hA hval
  obtain ⟨v0, vs0, d0, ds0, p0, q0, hargs, rfl, rfl, h0, r0⟩ := trodAll_cons hA
  obtain ⟨v1, vs1, d1, ds1, p1, q1, rfl, rfl, rfl, h1, r1⟩ := trodAll_cons r0
  obtain ⟨v2, vs2, d2, ds2, p2, q2, rfl, rfl, rfl, h2, r2⟩ := trodAll_cons r1
  obtain ⟨rfl, rfl, rfl⟩ := trodAll_nil r2
  obtain rfl : args = #[v0, v1, v2] := by cases args; simp_all
  have hv := of_laid hL
  obtain ⟨rfl, rfl⟩ := hV.unique (vars_mk enc hv _)
  have hE : W.cell? ⟨0, 0, none⟩ = some (.int .i64 262144) := by simpa using World.var?_cell gSh hv 0
  have k0 := h0
  have k1 := h1
  have k2 := h2
  have lt0 : ∀ x ∈ p0, x.block < W.heap.size := by obtain ⟨m, hm⟩ := k0; exact DataW.trod_lt m _ _ _ hm
  have lt1 : ∀ x ∈ p1, x.block < W.heap.size := by obtain ⟨m, hm⟩ := k1; exact DataW.trod_lt m _ _ _ hm
  have lt2 : ∀ x ∈ p2, x.block < W.heap.size := by obtain ⟨m, hm⟩ := k2; exact DataW.trod_lt m _ _ _ hm
  obtain ⟨vs, rfl⟩ := okWide_string Ybad.underlying9 (hval 0 9 v0 rfl rfl)
  obtain ⟨ao, n, c, rfl⟩ := okWide_slice Ybad.underlying22 (hval 1 22 v1 rfl rfl)
  obtain ⟨zs, hrz, lz, hz⟩ := open_bytes h1
  obtain ⟨z, rfl, e6, e7, wk⟩ := open_int Ybad.underlying5 (hval 2 5 v2 rfl rfl) h2
  clear hA0 hV0 hval0
  refine (stop_any vs ao n c zs z W lz hrz hz hE (u8_of_wf wk).1 (u8_of_wf wk).2).mono fun e W' ⟨he, hk⟩ => ?_
  subst he
  have bel := hk.below
  have hvW' := var?_below bel gSh (block_lt_of_cell hE) hv
  exact ⟨_, rfl, _, _, _, [], _, [.cell 0 0], hW', trodAll_mk1 (shut_bool Ybad.underlying4 _),
    (trodAll_cons_mk (Below.trod laidOut (by kernel_rfl) (of_decide_eq_true (by kernel_rfl)) k0 bel lt0) (trodAll_cons_mk (Below.trod laidOut (by kernel_rfl) (of_decide_eq_true (by kernel_rfl)) k1 bel lt1)
      (trodAll_cons_mk (Below.trod laidOut (by kernel_rfl) (of_decide_eq_true (by kernel_rfl)) k2 bel lt2) trodAll_mk0))),
    vars_mk enc hvW' _, bel.frame _, fun h => by cases h⟩

theorem stop_row_holds : Rows.LawS5360AStopSaid :=
  OpenClaim.holds_of_wide 4 Ybad.f4 rfl rfl rfl rfl rfl rfl rfl ⟨rfl, rfl, rfl, rfl, rfl⟩ rfl rfl rfl rfl rfl (by kernel_rfl) Ybad.func4 (by kernel_rfl)
    (of_decide_eq_true (by kernel_rfl)) (by unfold Func.isWrapper; first | (rw [if_pos (by decide +kernel)]; kernel_rfl) | (rw [if_neg (by decide +kernel)]; exact ⟨rfl, rfl⟩))
    (fun os started H enc _ => stop_lifted os started H enc)

theorem lawS5360AStop_card : Rows.LawS5360AStopCardSaid :=
  Claim7.holds_tied_plain_at .later [] [.data] true Rows.lawS5360AStopCard.stood.harness false
    stop_row_holds (fun _ h => by cases h) (by kernel_rfl) (fun _ h => by cases h) lawS5360AStop_row_tie rfl ⟨rfl, rfl⟩ (by kernel_rfl) rfl
    (fun f fn hf hfn => by
      obtain rfl : f = 4 := Option.some.inj ((show Ybad.prog.funcNamed Rows.lawS5360AStopRow.func = some 4 by kernel_rfl).symm.trans hf) |>.symm
      obtain rfl : fn = Ybad.f4 := (Option.some.inj (Ybad.func4.symm.trans hfn)).symm
      exact ⟨by kernel_rfl, fun j t ht => by
        rw [Ybad.params4] at ht
        have hm : t ∈ [9, 22, 5] := by simpa using Array.mem_of_getElem? ht
        have hall : ([9, 22, 5].all fun u => !Ybad.prog.wantsStandIn u) = true := by kernel_rfl
        exact (show Ybad.prog.wantsStandIn t = false by simpa using List.all_eq_true.1 hall t hm)⟩)
    (by kernel_rfl)
end Go.Proofs.YbulkdfzeDoor
