/-
  OWN WORK: 'Rows.LawS5354AOpenCardSaid': the row out of the walks, and the tied card.
-/
import Derived.Test.YbulkdfvyDoorRows
import Derived.Test.YbulkdfvyDoorTie
import Derived.Test.YbulkdfvyDoorCards
import Derived.Test.YbulkdfvyDoorLawBack
import Derived.ProofKit
import Derived.LaidMore
import Derived.OpenShut
import Derived.Stop.Joined
import Derived.Stop.LaidErr
import Derived.WalkSmall
import Derived.ShutString
import Derived.ChangeOld
import Derived.SevenTiedAt
namespace Go.Proofs.YbulkdfvyDoor
open Go.ChangeShapes Go.WideShapes Go.ChangeAt Go.RowKit

theorem own : ownKnob Ybad.prog.godebug = none := by kernel_rfl
theorem laidOut : laidOutB Ybad.prog = true := by kernel_rfl
/-- The listed variable's name, and its dynamic type's, as the given row has them. -/
def errName : String := Rows.lawS5354AOpenRow.named.headD ""
def errType : String := match Rows.laid_example_com_keyfold_keyfold_errNotAuthentic (H := Unit) with | .iface n _ => n | _ => ""
theorem gErr : Ybad.prog.globalNamed errName = some 0 := by kernel_rfl
theorem tErr : (Ybad.prog.globals[0]?).map (·.type) = some 32 := by kernel_rfl
theorem cells60 : Ybad.prog.cellsOf 60 = 1 := by kernel_rfl
theorem cells9 : Ybad.prog.cellsOf 9 = 1 := by kernel_rfl
theorem row39 (u : TypeId) (h : Ybad.prog.typeName? 3 u = some errType) : u = 39 :=
  typeName_ptr_named (nm := "errors.errorString") (by kernel_rfl) (by kernel_rfl) (by decide) u (h.trans (congrArg some (by decide)))

theorem door_met (os : Os) (args : Array Value) : laidMetH Ybad.prog Rows.lawS5354AOpenRow.laid ((World.doorLaid Ybad.prog 400 os).forCall (fun _ _ => 0) ⟨#[], args, []⟩).memory :=
  laidMetH_of_parts3 (fuel := 8) (laidMet_of_run' 8 (by kernel_rfl) (by kernel_rfl)) (by kernel_rfl) (by kernel_rfl)

theorem of_laid {W : World} (h : laidMetH Ybad.prog Rows.lawS5354AOpenRow.laid W) : ∃ a : Addr, W.var? Ybad.prog errName = some #[.iface 39 (.pointer (some a))] := by
  rw [MakeChecks.laidMetH_plain _ _ _ (by kernel_rfl)] at h
  obtain ⟨a0, s0, hv0, _⟩ := laid_sentinel h gErr tErr Ybad.underlying32 row39 Ybad.underlying39 Ybad.underlying60 rfl rfl Ybad.underlying9 cells60 cells9
  exact ⟨a0, hv0⟩

/-- A slice of bytes that came in. -/
theorem open_bytes {H : Type} {enc : TypeId × Value → H} {W : World} {a : Option Addr} {len cap : Nat} {d : DataW H} {p : List MemPlace} (h : DataW.Trod enc Ybad.prog W 0 (fun _ => true) true 22 (.slice a len cap) d p) :
    ∃ zs : List Int, Rd W a (zs.map (Value.int .u8)) ∧ zs.length = len ∧ len ≤ maxLen := by
  obtain ⟨fuel, hf⟩ := h
  rcases open_ints Ybad.underlying22 Ybad.underlying5 (by kernel_rfl) hf with ⟨hcs, _⟩ | ⟨x, l, c, zs, hcs, _, hl, hm, hz, _, hcell, hwz⟩
  · simp [Value.cells] at hcs
    obtain ⟨rfl, rfl, rfl⟩ := hcs
    exact ⟨[], Rd.empty _ _, rfl, Nat.zero_le _⟩
  · simp [Value.cells] at hcs
    obtain ⟨rfl, rfl, rfl⟩ := hcs
    have hz' : zs.length = cap := by simpa using hz
    refine ⟨zs.take len, ⟨fun h => (by cases h), fun y hy j u hj => ?_⟩, by simp; omega, by omega⟩
    cases hy
    rw [List.getElem?_map, List.getElem?_take] at hj
    split at hj
    · have hjz : j < zs.length := by omega
      rw [List.getElem?_eq_getElem hjz] at hj
      cases hj
      rw [hcell j hjz]
      simp [hjz]
    · cases hj

/-- The law, whatever the input. -/
theorem law_any (r0 ca : Option Addr) (rl rc lc cc : Nat) (front fail : Bool) (k : Int) (rz cz : List Int) (ea : Addr) (w : World) (b1 : rl ≤ maxLen) (b2 : lc ≤ maxLen)
    (hr : Rd w r0 (rz.map (Value.int .u8))) (lr : rz.length = rl) (hc : Rd w ca (cz.map (Value.int .u8))) (lcz : cz.length = lc) (hE : w.cell? ⟨0, 0, none⟩ = some (.iface 39 (.pointer (some ea)))) :
    Calls Ybad.prog 3 #[.slice r0 rl rc, .slice ca lc cc, .bool front, .bool fail, .int .u8 k] w fun e w' => e = .returned (.bool true) ∧ Keep [] w w' := by
  by_cases h : 4096 < rl ∨ 4096 < lc
  · exact law_long r0 ca rl rc lc cc front fail k w h b1 b2
  · cases front
    · exact law_back r0 ca rl rc lc cc fail k rz cz ea w (by omega) (by omega) hr lr hc lcz hE
    · exact law_front r0 ca rl rc lc cc fail k rz cz ea w (by omega) (by omega) hr lr hc lcz hE

set_option maxRecDepth 100000 in
theorem lifted (os : Os) (started : os.Started) (H : Type) (enc : TypeId × Value → H) :
    ReturnsInHanded {} Ybad.checked os 3 .any (fun w args => (Rows.lawS5354AOpenSpec.pre enc Ybad.prog Ybad.f3 [] false w args ∧ laidMetH Ybad.prog Rows.lawS5354AOpenRow.laid w) ∧ sizedMet enc Ybad.prog Ybad.f3 (OpenSpec.ofChange Rows.lawS5354AOpenSpec) false w args)
      (Rows.lawS5354AOpenSpec.post enc Ybad.prog Ybad.f3 false true false false) := by
  refine returnsInHanded_of_change_and (C := Ybad.checked) (X := fun w _ => laidMetH Ybad.prog Rows.lawS5354AOpenRow.laid w) (fun _ _ _ hh h => h.of_heap hh) own started (by kernel_rfl) Ybad.func3
    (ChangeSpec.witness_shaped (enc := enc) (C := Ybad.checked) (os := os) (X := fun w _ => laidMetH Ybad.prog Rows.lawS5354AOpenRow.laid w) false (World.doorLaid Ybad.prog 400 os) #[.slice none 0 0, .slice none 0 0, .bool false, .bool false, .int .u8 0] 8 rfl (World.shaped_of_RefB (by kernel_rfl) (by kernel_rfl)) (by kernel_rfl) (by kernel_rfl) (by kernel_rfl) (door_met os _)) ?_
  intro W base args ds gs before hval0 hW _ _ hL _
  have hval : ∀ (j : Nat) t v, Ybad.f3.params[j]? = some t → args[j]? = some v → Value.okWide Ybad.prog W .any base t v := hval0
  have hW' := hW
  obtain ⟨p, q, hA0, hV0, rfl, hfz, hnd⟩ := hW
  have hA : DataW.TrodAll enc Ybad.prog W 0 (fun _ => true) true Ybad.f3.params.toList args.toList ds p := hA0
  have hV : DataW.TrodVars enc Ybad.prog W (fun _ => true) [errName] gs q := hV0
  rw [Ybad.params3] at hA hval
  obtain ⟨v0, vs0, d0, ds0, p0, q0, hargs, rfl, rfl, h0, r0⟩ := trodAll_cons hA
  obtain ⟨v1, vs1, d1, ds1, p1, q1, rfl, rfl, rfl, h1, r1⟩ := trodAll_cons r0
  obtain ⟨v2, vs2, d2, ds2, p2, q2, rfl, rfl, rfl, h2, r2⟩ := trodAll_cons r1
  obtain ⟨v3, vs3, d3, ds3, p3, q3, rfl, rfl, rfl, h3, r3⟩ := trodAll_cons r2
  obtain ⟨v4, vs4, d4, ds4, p4, q4, rfl, rfl, rfl, h4, r4⟩ := trodAll_cons r3
  obtain ⟨rfl, rfl, rfl⟩ := trodAll_nil r4
  obtain rfl : args = #[v0, v1, v2, v3, v4] := by cases args; simp_all
  obtain ⟨ea, hv⟩ := of_laid hL
  obtain ⟨rfl, rfl⟩ := hV.unique (vars_read1 enc gErr tErr Ybad.underlying32 hv trivial _)
  have hE : W.cell? ⟨0, 0, none⟩ = some (.iface 39 (.pointer (some ea))) := by simpa using World.var?_cell gErr hv 0
  have k0 := h0
  have k1 := h1
  have k2 := h2
  have k3 := h3
  have k4 := h4
  have lt0 : ∀ x ∈ p0, x.block < W.heap.size := by obtain ⟨m, hm⟩ := k0; exact DataW.trod_lt m _ _ _ hm
  have lt1 : ∀ x ∈ p1, x.block < W.heap.size := by obtain ⟨m, hm⟩ := k1; exact DataW.trod_lt m _ _ _ hm
  have lt2 : ∀ x ∈ p2, x.block < W.heap.size := by obtain ⟨m, hm⟩ := k2; exact DataW.trod_lt m _ _ _ hm
  have lt3 : ∀ x ∈ p3, x.block < W.heap.size := by obtain ⟨m, hm⟩ := k3; exact DataW.trod_lt m _ _ _ hm
  have lt4 : ∀ x ∈ p4, x.block < W.heap.size := by obtain ⟨m, hm⟩ := k4; exact DataW.trod_lt m _ _ _ hm
  obtain ⟨r0a, rl, rc, rfl⟩ := okWide_slice Ybad.underlying22 (hval 0 22 v0 rfl rfl)
  obtain ⟨ca, lc, cc, rfl⟩ := okWide_slice Ybad.underlying22 (hval 1 22 v1 rfl rfl)
  obtain ⟨rz, hrz, lrz, brz⟩ := open_bytes h0
  obtain ⟨cz, hcz, lcz, bcz⟩ := open_bytes h1
  obtain ⟨front, rfl, e2, e3⟩ := open_bool Ybad.underlying4 (hval 2 4 v2 rfl rfl) h2
  obtain ⟨fail, rfl, e4, e5⟩ := open_bool Ybad.underlying4 (hval 3 4 v3 rfl rfl) h3
  obtain ⟨k, rfl, e6, e7, wk⟩ := open_int Ybad.underlying5 (hval 4 5 v4 rfl rfl) h4
  clear hA0 hV0 hval0
  refine (law_any r0a ca rl rc lc cc front fail k rz cz ea W brz bcz hrz lrz hcz lcz hE).mono fun e W' ⟨he, hk⟩ => ?_
  subst he
  have bel := hk.below
  have hvW' := var?_below bel gErr (block_lt_of_cell hE) hv
  exact ⟨_, rfl, _, _, _, [], _, [.cell 0 0], hW', trodAll_mk1 (shut_bool Ybad.underlying4 _),
    (trodAll_cons_mk (Below.trod laidOut (by kernel_rfl) (of_decide_eq_true (by kernel_rfl)) k0 bel lt0) (trodAll_cons_mk (Below.trod laidOut (by kernel_rfl) (of_decide_eq_true (by kernel_rfl)) k1 bel lt1)
      (trodAll_cons_mk (Below.trod laidOut (by kernel_rfl) (of_decide_eq_true (by kernel_rfl)) k2 bel lt2) (trodAll_cons_mk (Below.trod laidOut (by kernel_rfl) (of_decide_eq_true (by kernel_rfl)) k3 bel lt3)
        (trodAll_cons_mk (Below.trod laidOut (by kernel_rfl) (of_decide_eq_true (by kernel_rfl)) k4 bel lt4) trodAll_mk0))))),
    vars_read1 enc gErr tErr Ybad.underlying32 hvW' trivial _, bel.frame _, fun h => by cases h⟩

theorem row_holds : Rows.LawS5354AOpenSaid :=
  OpenClaim.holds_of_wide 3 Ybad.f3 rfl rfl rfl rfl rfl rfl rfl ⟨rfl, rfl, rfl, rfl, rfl⟩ rfl rfl rfl rfl rfl (by kernel_rfl) Ybad.func3 (by kernel_rfl)
    (of_decide_eq_true (by kernel_rfl)) (by unfold Func.isWrapper; first | (rw [if_pos (by decide +kernel)]; kernel_rfl) | (rw [if_neg (by decide +kernel)]; exact ⟨rfl, rfl⟩))
    (fun os started H enc _ => lifted os started H enc)

theorem lawS5354AOpen_card : Rows.LawS5354AOpenCardSaid :=
  Claim7.holds_tied_plain_at .later [] [.sentinel] true Rows.lawS5354AOpenCard.stood.harness true
    row_holds (fun _ h => by cases h) (by kernel_rfl) (fun _ h => by cases h) lawS5354AOpen_row_tie rfl ⟨rfl, rfl⟩ (by kernel_rfl) rfl
    (fun f fn hf hfn => by
      obtain rfl : f = 3 := Option.some.inj ((show Ybad.prog.funcNamed Rows.lawS5354AOpenRow.func = some 3 by kernel_rfl).symm.trans hf) |>.symm
      obtain rfl : fn = Ybad.f3 := (Option.some.inj (Ybad.func3.symm.trans hfn)).symm
      exact ⟨by kernel_rfl, fun j t ht => by
        rw [Ybad.params3] at ht
        have hm : t ∈ [22, 22, 4, 4, 5] := by simpa using Array.mem_of_getElem? ht
        have hall : ([22, 22, 4, 4, 5].all fun u => !Ybad.prog.wantsStandIn u) = true := by kernel_rfl
        exact (show Ybad.prog.wantsStandIn t = false by simpa using List.all_eq_true.1 hall t hm)⟩)
    (by kernel_rfl)
end Go.Proofs.YbulkdfvyDoor
