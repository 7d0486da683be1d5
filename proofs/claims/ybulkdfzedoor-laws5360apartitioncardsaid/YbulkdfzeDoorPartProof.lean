/-
  OWN WORK: 'Rows.LawS5360APartitionCardSaid': the row out of the walks, and the tied card.
-/
import Derived.Test.YbulkdfzeDoorShut
import Derived.Test.YbulkdfzeDoorPart
namespace Go.Proofs.YbulkdfzeDoor
open Go.ChangeShapes Go.WideShapes Go.ChangeAt Go.RowKit

theorem part_door_met (os : Os) (args : Array Value) : laidMetH Ybad.prog Rows.lawS5360APartitionRow.laid ((World.doorLaid Ybad.prog 400 os).forCall (fun _ _ => 0) ⟨#[], args, []⟩).memory :=
  laidMetH_of_parts3 (fuel := 8) (laidMet_of_run' 8 (by kernel_rfl) (by kernel_rfl)) (by kernel_rfl) (by kernel_rfl)

/-- The law, whatever the input. -/
theorem part_any (vs : ByteArray) (ao : Option Addr) (n c : Nat) (zs : List Int) (w : World) (lz : zs.length = n) (hr : Rd w ao (zs.map (Value.int .u8))) (hz : ∀ z ∈ zs, 0 ≤ z ∧ z < 256)
    (hv : w.cell? ⟨0, 0, none⟩ = some (.int .i64 262144)) :
    Calls Ybad.prog 3 #[.string vs, .slice ao n c] w fun e w' => e = .returned (.bool true) ∧ Keep [] w w' := by
  by_cases h : n ≤ 512
  · exact part_small vs ao n c zs w h lz hr hz hv
  · exact part_big vs ao n c w (by omega)

set_option maxRecDepth 100000 in
theorem part_lifted (os : Os) (started : os.Started) (H : Type) (enc : TypeId × Value → H) :
    ReturnsInHanded {} Ybad.checked os 3 .any (fun w args => (Rows.lawS5360APartitionSpec.pre enc Ybad.prog Ybad.f3 [] false w args ∧ laidMetH Ybad.prog Rows.lawS5360APartitionRow.laid w) ∧ sizedMet enc Ybad.prog Ybad.f3 (OpenSpec.ofChange Rows.lawS5360APartitionSpec) false w args)
      (Rows.lawS5360APartitionSpec.post enc Ybad.prog Ybad.f3 false true false false) := by
  refine returnsInHanded_of_change_and (C := Ybad.checked) (X := fun w _ => laidMetH Ybad.prog Rows.lawS5360APartitionRow.laid w) (fun _ _ _ hh h => h.of_heap hh) own started (by kernel_rfl) Ybad.func3
    (ChangeSpec.witness_shaped (enc := enc) (C := Ybad.checked) (os := os) (X := fun w _ => laidMetH Ybad.prog Rows.lawS5360APartitionRow.laid w) false (World.doorLaid Ybad.prog 400 os) #[.string ⟨#[]⟩, .slice none 0 0] 8 rfl (World.shaped_of_RefB (by kernel_rfl) (by kernel_rfl)) (by kernel_rfl) (by kernel_rfl) (by kernel_rfl) (part_door_met os _)) ?_
  intro W base args ds gs before hval0 hW _ _ hL _
  have hval : ∀ (j : Nat) t v, Ybad.f3.params[j]? = some t → args[j]? = some v → Value.okWide Ybad.prog W .any base t v := hval0
  have hW' := hW
  obtain ⟨p, q, hA0, hV0, rfl, hfz, hnd⟩ := hW
  have hA : DataW.TrodAll enc Ybad.prog W 0 (fun _ => true) true Ybad.f3.params.toList args.toList ds p := hA0
  have hV : DataW.TrodVars enc Ybad.prog W (fun _ => true) [shName] gs q := hV0
  rw [Ybad.params3] at hA hval
  obtain ⟨v0, vs0, d0, ds0, p0, q0, hargs, rfl, rfl, h0, r0⟩ := trodAll_cons hA
  obtain ⟨v1, vs1, d1, ds1, p1, q1, rfl, rfl, rfl, h1, r1⟩ := trodAll_cons r0
  obtain ⟨rfl, rfl, rfl⟩ := trodAll_nil r1
  obtain rfl : args = #[v0, v1] := by cases args; simp_all
  have hv := of_laid hL
  obtain ⟨rfl, rfl⟩ := hV.unique (vars_mk enc hv _)
  have hE : W.cell? ⟨0, 0, none⟩ = some (.int .i64 262144) := by simpa using World.var?_cell gSh hv 0
  have k0 := h0
  have k1 := h1
  have lt0 : ∀ x ∈ p0, x.block < W.heap.size := by obtain ⟨m, hm⟩ := k0; exact DataW.trod_lt m _ _ _ hm
  have lt1 : ∀ x ∈ p1, x.block < W.heap.size := by obtain ⟨m, hm⟩ := k1; exact DataW.trod_lt m _ _ _ hm
  obtain ⟨vs, rfl⟩ := okWide_string Ybad.underlying9 (hval 0 9 v0 rfl rfl)
  obtain ⟨ao, n, c, rfl⟩ := okWide_slice Ybad.underlying22 (hval 1 22 v1 rfl rfl)
  obtain ⟨zs, hrz, lz, hz⟩ := open_bytes h1
  clear hA0 hV0 hval0
  refine (part_any vs ao n c zs W lz hrz hz hE).mono fun e W' ⟨he, hk⟩ => ?_
  subst he
  have bel := hk.below
  have hvW' := var?_below bel gSh (block_lt_of_cell hE) hv
  exact ⟨_, rfl, _, _, _, [], _, [.cell 0 0], hW', trodAll_mk1 (shut_bool Ybad.underlying4 _),
    (trodAll_cons_mk (Below.trod laidOut (by kernel_rfl) (of_decide_eq_true (by kernel_rfl)) k0 bel lt0) (trodAll_cons_mk (Below.trod laidOut (by kernel_rfl) (of_decide_eq_true (by kernel_rfl)) k1 bel lt1) trodAll_mk0)),
    vars_mk enc hvW' _, bel.frame _, fun h => by cases h⟩

theorem part_row_holds : Rows.LawS5360APartitionSaid :=
  OpenClaim.holds_of_wide 3 Ybad.f3 rfl rfl rfl rfl rfl rfl rfl ⟨rfl, rfl, rfl, rfl, rfl⟩ rfl rfl rfl rfl rfl (by kernel_rfl) Ybad.func3 (by kernel_rfl)
    (of_decide_eq_true (by kernel_rfl)) (by unfold Func.isWrapper; first | (rw [if_pos (by decide +kernel)]; kernel_rfl) | (rw [if_neg (by decide +kernel)]; exact ⟨rfl, rfl⟩))
    (fun os started H enc _ => part_lifted os started H enc)

theorem lawS5360APartition_card : Rows.LawS5360APartitionCardSaid :=
  Claim7.holds_tied_plain_at .later [] [.data] true Rows.lawS5360APartitionCard.stood.harness false
    part_row_holds (fun _ h => by cases h) (by kernel_rfl) (fun _ h => by cases h) lawS5360APartition_row_tie rfl ⟨rfl, rfl⟩ (by kernel_rfl) rfl
    (fun f fn hf hfn => by
      obtain rfl : f = 3 := Option.some.inj ((show Ybad.prog.funcNamed Rows.lawS5360APartitionRow.func = some 3 by kernel_rfl).symm.trans hf) |>.symm
      obtain rfl : fn = Ybad.f3 := (Option.some.inj (Ybad.func3.symm.trans hfn)).symm
      exact ⟨by kernel_rfl, fun j t ht => by
        rw [Ybad.params3] at ht
        have hm : t ∈ [9, 22] := by simpa using Array.mem_of_getElem? ht
        have hall : ([9, 22].all fun u => !Ybad.prog.wantsStandIn u) = true := by kernel_rfl
        exact (show Ybad.prog.wantsStandIn t = false by simpa using List.all_eq_true.1 hall t hm)⟩)
    (by kernel_rfl)
end Go.Proofs.YbulkdfzeDoor
