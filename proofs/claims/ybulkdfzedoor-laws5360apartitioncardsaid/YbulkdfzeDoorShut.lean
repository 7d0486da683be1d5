import Derived.Test.YbulkdfzeDoorRows
import Derived.Test.YbulkdfzeDoorTie
import Derived.Test.YbulkdfzeDoorCards
import Derived.Test.YbulkdfzeDoorBlocks
import Derived.ProofKit
import Derived.LaidMore
import Derived.OpenShut
import Derived.Stop.Joined
import Derived.Stop.LaidErr
import Derived.WalkSmall
import Derived.ShutString
import Derived.ChangeOld
import Derived.SevenTiedAt
namespace Go.Proofs.YbulkdfzeDoor
open Go.ChangeShapes Go.WideShapes Go.ChangeAt Go.RowKit

theorem own : ownKnob Ybad.prog.godebug = none := by kernel_rfl
theorem laidOut : laidOutB Ybad.prog = true := by kernel_rfl
/-- The listed variable's name, as the given row has it. -/
def shName : String := Rows.lawS5360AStopRow.named.headD ""
theorem gSh : Ybad.prog.globalNamed shName = some 0 := by kernel_rfl
theorem tSh : (Ybad.prog.globals[0]?).map (·.type) = some 3 := by kernel_rfl

theorem of_laid {W : World} (h : laidMetH Ybad.prog Rows.lawS5360AStopRow.laid W) : W.var? Ybad.prog shName = some #[.int .i64 262144] := by
  rw [MakeChecks.laidMetH_plain _ _ _ (by kernel_rfl)] at h
  obtain ⟨ps, ⟨g0, t0, cs0, f0, p0, q0, hg0, ht0, hv0, hd0, _, e0⟩, _, hrows⟩ := h
  obtain rfl := Option.some.inj (gSh.symm.trans hg0)
  obtain rfl := Option.some.inj (tSh.symm.trans ht0)
  obtain ⟨n', hc, hx, hw⟩ := DataW.trod_int Ybad.underlying3 hd0
  obtain ⟨l0⟩ := cs0
  simp only at hc
  subst hc
  have : n' = 262144 := by
    have h1 := congrArg Prod.fst hx
    simp [Rows.laid_example_com_convene_convene_internal_quorum_shipBytes] at h1
    exact h1.symm
  subst this
  exact hv0

theorem vars_mk {H : Type} (enc : TypeId × Value → H) {W : World} (h : W.var? Ybad.prog shName = some #[.int .i64 262144]) (sp : Nat → Bool) :
    DataW.TrodVars enc Ybad.prog W sp [shName] [.lit (.int .i64 262144)] [.cell 0 0] := by
  have hw : (Lit.int .i64 262144).wf = true := by decide
  exact ⟨0, 3, #[.int .i64 262144], 1, [], [], gSh, tSh, h, by simp [DataW.trod, Ybad.underlying3, hw], rfl, rfl⟩

theorem u8_of_wf {z : Int} (h : (Lit.int .u8 z).wf = true) : 0 ≤ z ∧ z < 256 := by
  have h1 : IntKind.u8.max = 255 := rfl
  have h0 : IntKind.u8.min = 0 := rfl
  simp [Lit.wf] at h
  omega

/-- A slice of bytes that came in. -/
theorem open_bytes {H : Type} {enc : TypeId × Value → H} {W : World} {a : Option Addr} {len cap : Nat} {d : DataW H} {p : List MemPlace} (h : DataW.Trod enc Ybad.prog W 0 (fun _ => true) true 22 (.slice a len cap) d p) :
    ∃ zs : List Int, Rd W a (zs.map (Value.int .u8)) ∧ zs.length = len ∧ ∀ z ∈ zs, 0 ≤ z ∧ z < 256 := by
  obtain ⟨fuel, hf⟩ := h
  rcases open_ints Ybad.underlying22 Ybad.underlying5 (by kernel_rfl) hf with ⟨hcs, _⟩ | ⟨x, l, c, zs, hcs, _, hl, hm, hz, _, hcell, hwz⟩
  · simp [Value.cells] at hcs
    obtain ⟨rfl, rfl, rfl⟩ := hcs
    exact ⟨[], Rd.empty _ _, rfl, by simp⟩
  · simp [Value.cells] at hcs
    obtain ⟨rfl, rfl, rfl⟩ := hcs
    have hz' : zs.length = cap := by simpa using hz
    refine ⟨zs.take len, ⟨fun h => (by cases h), fun y hy j u hj => ?_⟩, by simp; omega, fun z hz => u8_of_wf (hwz z (List.mem_of_mem_take hz))⟩
    cases hy
    rw [List.getElem?_map, List.getElem?_take] at hj
    split at hj
    · have hjz : j < zs.length := by omega
      rw [List.getElem?_eq_getElem hjz] at hj
      cases hj
      rw [hcell j hjz]
      simp [hjz]
    · cases hj
end Go.Proofs.YbulkdfzeDoor
