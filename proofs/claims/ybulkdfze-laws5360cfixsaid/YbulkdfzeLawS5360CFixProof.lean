/-
  'Rows.LawS5360CFixSaid': the guide's shell turned to this program's parameters.
-/
import Derived.Test.YbulkdfzeRows
import Derived.Test.YbulkdfzeLawM
import Derived.Test.YbulkdfzeLawN
import Derived.Test.YbulkdfzeLawO
import Derived.WalkKit
import Derived.ProofKit
import Derived.OpenShut
import Derived.ShutString
import Derived.ChangeOld
import Derived.Below
namespace Go.Proofs.Ybulkdfze.lawS5360CFix
open Go.ChangeShapes Go.WideShapes Go.ChangeAt Go.RowKit

theorem own : ownKnob Yba.prog.godebug = none := by kernel_rfl
theorem laidOut : laidOutB Yba.prog = true := by kernel_rfl

/-- The walk: the law returns true and writes nothing that was there. -/
theorem walk (om nm self : Int) (cs : Array Value) (kn : Nat → Int) (hao : Option Addr) (held : List (Int × Int)) (hcap : Nat) (w : World)
    (hom : 0 ≤ om ∧ om < 256) (hnm : 0 ≤ nm ∧ nm < 256) (hself : 0 ≤ self ∧ self < 256)
    (hcs : ∀ (k : Nat) u, cs.toList[k]? = some u → (∃ b, u = .bool b) ∨ isU8 u)
    (hrp : ∀ i, i < 4 → cs.toList[i * 11]? = some (.bool (boolAt cs.toList (i * 11))) ∧ cs.toList[i * 11 + 1]? = some (.bool (boolAt cs.toList (i * 11 + 1))) ∧ cs.toList[i * 11 + 2]? = some (.bool (boolAt cs.toList (i * 11 + 2))) ∧
      ∀ j, j < 4 → cs.toList[i * 11 + 3 + j]? = some (.bool (boolAt cs.toList (i * 11 + 3 + j))) ∧ cs.toList[i * 11 + 7 + j]? = some (.int .u8 (intAt cs.toList (i * 11 + 7 + j))))
    (hkn : ∀ i, 0 ≤ kn i ∧ kn i < 256) (hh : ∀ p ∈ held, (0 ≤ p.1 ∧ p.1 < 256) ∧ 0 ≤ p.2 ∧ p.2 < 256) (hrd : Rd w hao (hcells held)) :
    Calls Yba.prog 3 #[.int .u8 om, .int .u8 nm, .agg cs, .int .u8 self, .agg #[.int .u8 (kn 0), .int .u8 (kn 1), .int .u8 (kn 2), .int .u8 (kn 3)], .slice hao held.length hcap] w fun e w' => e = .returned (.bool true) ∧ Below w.heap.size w w' := by
  suffices h : Calls Yba.prog 3 #[.int .u8 om, .int .u8 nm, .agg cs, .int .u8 self, .agg #[.int .u8 (kn 0), .int .u8 (kn 1), .int .u8 (kn 2), .int .u8 (kn 3)], .slice hao held.length hcap] w fun e w' => e = .returned (.bool true) ∧ Keep [] w w' from h.mono fun e w' ⟨he, hk⟩ => ⟨he, hk.below⟩
  by_cases hl : 1024 < held.length
  · exact law_long om nm self cs _ hao held.length hcap w hl
  · let D : LD := { w0 := w, om := om, nm := nm, self := self, pr := fun i => boolAt cs.toList (i * 11), old := fun i => boolAt cs.toList (i * 11 + 1), gu := fun i => boolAt cs.toList (i * 11 + 2), has := fun i j => boolAt cs.toList (i * 11 + 3 + j), sq := fun i j => intAt cs.toList (i * 11 + 7 + j), kN := kn, held := held, hao := hao, hcap := hcap, rp := cs.toList }
    have H : D.Ok := ⟨hom, hnm, hself, fun i j => intAt_fits hcs _, hkn, hh, by show held.length ≤ 1024; omega, hrp, hrd⟩
    exact law_enter D H cs rfl fun a w' RP KN k0 b1 b2 hs hd h0 h1 h3 h5 h8 h10 => law_body D H a w' RP KN k0 b1 b2 hs hd h0 h1 h3 h5 h8 h10

theorem u8_wf {n : Int} (h : (Lit.int .u8 n).wf = true) : 0 ≤ n ∧ n < 256 := by
  simp [Lit.wf, IntKind.min, IntKind.max, IntKind.bits, IntKind.signed] at h
  omega

set_option maxRecDepth 1000000 in
theorem lifted (os : Os) (started : os.Started) (H : Type) (enc : TypeId × Value → H) :
    ReturnsInHanded {} Yba.checked os 3 .any (Rows.lawS5360CFixSpec.pre6 enc Yba.prog Yba.f3 Rows.lawS5360CFixRow.domain false) (Rows.lawS5360CFixSpec.post enc Yba.prog Yba.f3 false true false false) := by
  refine returnsInHanded_of_change (C := Yba.checked) own started (by kernel_rfl) Yba.func3
    (ChangeSpec.witness6 (enc := enc) (C := Yba.checked) false ⟨#[], #[.int .u8 0, .int .u8 0, .agg #[.bool false, .bool false, .bool false, .bool false, .bool false, .bool false, .bool false, .int .u8 0, .int .u8 0, .int .u8 0, .int .u8 0, .bool false, .bool false, .bool false, .bool false, .bool false, .bool false, .bool false, .int .u8 0, .int .u8 0, .int .u8 0, .int .u8 0, .bool false, .bool false, .bool false, .bool false, .bool false, .bool false, .bool false, .int .u8 0, .int .u8 0, .int .u8 0, .int .u8 0, .bool false, .bool false, .bool false, .bool false, .bool false, .bool false, .bool false, .int .u8 0, .int .u8 0, .int .u8 0, .int .u8 0], .int .u8 0, .agg #[.int .u8 0, .int .u8 0, .int .u8 0, .int .u8 0], .slice none 0 0], []⟩ 8 (by kernel_rfl) (by kernel_rfl) (by kernel_rfl) (by kernel_rfl)) ?_
  intro W base args ds gs before hval0 hW hcnd _
  have hval : ∀ (j : Nat) t v, Yba.f3.params[j]? = some t → args[j]? = some v → Value.okWide Yba.prog W .any base t v := hval0
  have hW' := hW
  obtain ⟨p, q, hA0, hV, rfl, hfz, hnd⟩ := hW
  have hA : DataW.TrodAll enc Yba.prog W 0 (fun _ => true) true Yba.f3.params.toList args.toList ds p := hA0
  rw [Yba.params3] at hA hval
  obtain ⟨v0, vs0, d0, ds0, p0, q0, hargs, rfl, rfl, h0, r0⟩ := trodAll_cons hA
  obtain ⟨v1, vs1, d1, ds1, p1, q1, rfl, rfl, rfl, h1, r1⟩ := trodAll_cons r0
  obtain ⟨v2, vs2, d2, ds2, p2, q2, rfl, rfl, rfl, h2, r2⟩ := trodAll_cons r1
  obtain ⟨v3, vs3, d3, ds3, p3, q3, rfl, rfl, rfl, h3, r3⟩ := trodAll_cons r2
  obtain ⟨v4, vs4, d4, ds4, p4, q4, rfl, rfl, rfl, h4, r4⟩ := trodAll_cons r3
  obtain ⟨v5, vs5, d5, ds5, p5, q5, rfl, rfl, rfl, h5, r5⟩ := trodAll_cons r4
  obtain ⟨rfl, rfl, rfl⟩ := trodAll_nil r5
  obtain rfl : args = #[v0, v1, v2, v3, v4, v5] := by cases args; simp_all
  obtain ⟨rfl, rfl⟩ := trodVars_none hV
  have lt : ∀ {t : TypeId} {v : Value} {d : DataW H} {pl : List MemPlace}, DataW.Trod enc Yba.prog W 0 (fun _ => true) true t v d pl → ∀ x ∈ pl, x.block < W.heap.size := fun k => by obtain ⟨m, hm⟩ := k; exact DataW.trod_lt m _ _ _ hm
  obtain ⟨om, rfl, _, _, w0⟩ := open_int Yba.underlying5 (hval 0 5 v0 rfl rfl) h0
  obtain ⟨nm, rfl, _, _, w1⟩ := open_int Yba.underlying5 (hval 1 5 v1 rfl rfl) h1
  obtain ⟨cs, rfl, c1, c2⟩ := open_reps (hval 2 26 v2 rfl rfl)
  obtain ⟨self, rfl, _, _, w3⟩ := open_int Yba.underlying5 (hval 3 5 v3 rfl rfl) h3
  obtain ⟨kn, rfl, hkn⟩ := open_kn (hval 4 23 v4 rfl rfl)
  obtain ⟨hao, len, cap, rfl⟩ := okWide_slice Yba.underlying27 (hval 5 27 v5 rfl rfl)
  obtain ⟨held, hlen, hh, hrd⟩ : ∃ l : List (Int × Int), l.length = len ∧ (∀ p ∈ l, (0 ≤ p.1 ∧ p.1 < 256) ∧ 0 ≤ p.2 ∧ p.2 < 256) ∧ Rd W hao (hcells l) := by
    obtain ⟨fuel, hf⟩ := h5
    exact open_held hf
  subst hlen
  clear hA0 hval0
  refine (walk om nm self cs kn hao held cap W (u8_wf w0) (u8_wf w1) (u8_wf w3) c1 c2 hkn hh hrd).mono fun e W' ⟨he, bel⟩ => ?_
  subst he
  exact ⟨_, rfl, _, _, _, [], _, [], hW', trodAll_mk1 (shut_bool Yba.underlying4 _), (trodAll_cons_mk (Below.trod laidOut (by kernel_rfl) (of_decide_eq_true (by kernel_rfl)) h0 bel (lt h0)) (trodAll_cons_mk (Below.trod laidOut (by kernel_rfl) (of_decide_eq_true (by kernel_rfl)) h1 bel (lt h1)) (trodAll_cons_mk (Below.trod laidOut (by kernel_rfl) (of_decide_eq_true (by kernel_rfl)) h2 bel (lt h2)) (trodAll_cons_mk (Below.trod laidOut (by kernel_rfl) (of_decide_eq_true (by kernel_rfl)) h3 bel (lt h3)) (trodAll_cons_mk (Below.trod laidOut (by kernel_rfl) (of_decide_eq_true (by kernel_rfl)) h4 bel (lt h4)) (trodAll_cons_mk (Below.trod laidOut (by kernel_rfl) (of_decide_eq_true (by kernel_rfl)) h5 bel (lt h5)) trodAll_mk0)))))), rfl, bel.frame _, fun h => by cases h⟩

theorem over : Rows.lawS5360CFixRow.holds Yba.pinned (OpenSpec.ofChange Rows.lawS5360CFixSpec) :=
  OpenClaim.holds_of_wide 3 Yba.f3 rfl rfl rfl rfl rfl rfl rfl ⟨rfl, rfl, rfl, rfl, rfl⟩ rfl rfl rfl rfl rfl (by kernel_rfl) Yba.func3 (by kernel_rfl)
    (of_decide_eq_true (by kernel_rfl)) (by unfold Func.isWrapper; first | (rw [if_pos (by decide +kernel)]; kernel_rfl) | (rw [if_neg (by decide +kernel)]; exact ⟨rfl, rfl⟩))
    (fun os started H enc _ => lifted os started H enc)

/-- The given statement. -/
theorem proved : Rows.LawS5360CFixSaid := over
end Go.Proofs.Ybulkdfze.lawS5360CFix
