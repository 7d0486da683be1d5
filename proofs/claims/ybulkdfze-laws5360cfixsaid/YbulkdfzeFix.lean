import Derived.Test.YbulkdfzeFixIn
import Derived.Deep.CutBlock
namespace Go.Proofs.Ybulkdfze
open Go Go.RowKit Go.Lib Go.Shelf

/-- The transitional set as far as the first j members. -/
def FixD.tr (D : FixD) (j : Nat) : List ByteArray := (D.ns.take j).filter fun m => D.pres m && D.old m
def TI (D : FixD) (w : World) (j : Nat) (wr : World) : Prop :=
  ∃ v, Blk wr D.N 86 (D.nc v (.map none)) ∧ wr.ownsRow w.heap.size 9 1 v (D.tr j).length ((D.tr j).map Value.string) ∧ Keep [D.N] w wr
theorem TI.keep {D : FixD} {w : World} {j : Nat} {wr w1 : World} (h : TI D w j wr) (k : Keep [] wr w1) : TI D w j w1 := by
  obtain ⟨v, h1, h2, h3⟩ := h
  exact ⟨v, k.blk h1 (by simp), owns_keep h2 k (by simp), h3.trans k (by simp)⟩

theorem put_step (w : World) (CB : Nat) (cs : List (ByteArray × Int)) (s : ByteArray) (x : Int) (hM : Mp w CB (cutKvs cs)) :
    ∃ w2, (Instr.mapUpdate 37 (.map (some CB)) (.string s) (.int .u64 x)).run Yba.prog w = .ok () w2 ∧ Mp w2 CB (cutKvs (putI s x cs)) ∧ Keep [CB] w w2 ∧ w2.heap.size = w.heap.size := by
  have h := run_put Yba.prog w 37 9 31 CB (cutKvs cs) s (.int .u64 x) Yba.underlying37 Yba.underlying9 hM
  rw [put_cut] at h
  have hlt : CB < w.heap.size := (Array.getElem?_eq_some_iff.1 hM).1
  refine ⟨_, h, ?_, ⟨rfl, rfl, rfl, by simp [World.putObj], fun k hk hne => ?_⟩, by simp [World.putObj]⟩
  · unfold Mp World.putObj; simp [hlt]
  · unfold World.putObj
    simp only [List.mem_singleton] at hne
    simp [Array.getElem?_setIfInBounds_ne (fun e => hne e.symm)]

theorem run_mkmap37 (w : World) : (Instr.makeMap 37 none).run Yba.prog w = .ok (.map (some w.heap.size)) (w.alloc (.map #[] 0)) := by
  simp [Instr.makeMap]

theorem sends_typed {base SB : Nat} {w w1 : World} {L : List (ByteArray × List Value)} (h : Sends base w SB L) (hk : ∀ g e cs, e = 65 ∨ e = 71 ∨ e = 9 ∨ e = 5 → Blk w g e cs → Blk w1 g e cs) : Sends 0 w1 SB L := by
  obtain ⟨v, xs, h1, h2, h3⟩ := h
  refine ⟨v, xs, hk _ _ _ (by simp) h1, ⟨h2.1, orR h2.2 fun ⟨g', cap, cur, a1, a2, a3, a4⟩ => ⟨g', cap, cur, a1, by omega, ?_, a4⟩⟩, SEl.of (fun g cs hb => hk _ _ _ (by simp) hb) (fun g cs hb => hk _ _ _ (by simp) hb) h3⟩
  have hb' : Blk w g' 71 cur.toList := by unfold Blk; simpa using a3
  simpa [Blk] using hk _ _ _ (by simp) hb'

theorem owns_rd {w : World} {base : Nat} {e : TypeId} {n : Nat} {ao : Option Addr} {c : Nat} {xs : List Value} (h : w.ownsRow base e 1 (.slice ao n c) n xs) : Rd w ao xs ∧ ∀ x, ao = some x → base ≤ x.block ∧ x.block < w.heap.size := by
  rcases h.2 with ⟨h1, h2⟩ | ⟨g, cap, cur, h1, hb, hg, _⟩
  · cases h1
    refine ⟨⟨fun _ => List.eq_nil_of_length_eq_zero (by have := h.1; omega), fun x hx => (by cases hx)⟩, fun x hx => (by cases hx)⟩
  · cases h1
    refine ⟨⟨fun h => (by cases h), fun x hx j u hj => ?_⟩, fun x hx => ?_⟩
    · cases hx; exact h.cells (g := g) rfl j u hj
    · cases hx; exact ⟨hb, (Array.getElem?_eq_some_iff.1 hg).1⟩

/-- The cut under way. -/
def CI (D : FixD) (w : World) (CB : Nat) (v : Value) (U : ByteArray × Int → Prop) (wr : World) : Prop :=
  ∃ cs, Blk wr D.N 86 (D.nc v (.map (some CB))) ∧ wr.ownsRow w.heap.size 9 1 v D.trans.length (D.trans.map Value.string) ∧ Keep [D.N] w wr ∧ Mp wr CB (cutKvs cs) ∧ CutIs D.os U cs
theorem CI.up {D : FixD} {w : World} {CB : Nat} {v : Value} {U : ByteArray × Int → Prop} {wr w1 : World} {r : Nat} (h : CI D w CB v U wr) (k : Keep [r] wr w1) (hr : w.heap.size ≤ r) (hrN : r ≠ D.N) (hrC : r ≠ CB) (hrR : ∀ cs e f, wr.heap[r]? ≠ some (.cells cs e f)) : CI D w CB v U w1 := by
  obtain ⟨cs, h1, h2, h3, h4, h5⟩ := h
  refine ⟨cs, k.blk h1 (by simpa using fun e => hrN e.symm), ?_, h3.trans k (fun x hx hlt => by simp at hx; omega), ?_, h5⟩
  · exact ⟨h2.1, orR h2.2 fun ⟨g, cap, cur, a1, a2, a3, a4⟩ => ⟨g, cap, cur, a1, a2, (k.block g (Array.getElem?_eq_some_iff.1 a3).1 (by simp; intro e; subst e; exact hrR _ _ _ a3)).trans a3, a4⟩⟩
  · exact (k.block CB (Array.getElem?_eq_some_iff.1 h4).1 (by simpa using fun e => hrC e.symm)).trans h4
theorem CI.keep {D : FixD} {w : World} {CB : Nat} {v : Value} {U : ByteArray × Int → Prop} {wr w1 : World} (h : CI D w CB v U wr) (k : Keep [] wr w1) : CI D w CB v U w1 := by
  obtain ⟨cs, h1, h2, h3, h4, h5⟩ := h
  exact ⟨cs, k.blk h1 (by simp), owns_keep h2 k (by simp), h3.trans k (by simp), (k.block CB (Array.getElem?_eq_some_iff.1 h4).1 (by simp)).trans h4, h5⟩
theorem CI.congr {D : FixD} {w : World} {CB : Nat} {v : Value} {U U' : ByteArray × Int → Prop} {wr : World} (h : CI D w CB v U wr) (hU : ∀ p, U p ↔ U' p) : CI D w CB v U' wr := by
  obtain ⟨cs, h1, h2, h3, h4, h5⟩ := h
  exact ⟨cs, h1, h2, h3, h4, h5.congr hU⟩

set_option maxRecDepth 20000 in
set_option maxHeartbeats 4000000 in
/-- '(*Endpoint).fix'. -/
theorem fix_any (D : FixD) (w : World) (H : FixIn D w) :
    Calls Yba.prog 8 #[.pointer (some ⟨D.E, 0, none⟩), .pointer (some ⟨D.N, 0, none⟩)] w fun e w' =>
      ((∃ m ∈ D.ns, D.bad m) ∧ e = .returned (.bool false) ∧ Keep [] w w') ∨ ((∀ m ∈ D.ns, ¬ D.bad m) ∧ e = .returned (.bool true) ∧ FixOut D w w') := by
  have c41 := (H.hE.cell 41).trans H.e41
  have n1 : w.cell? ⟨D.N, 1, none⟩ = some (.slice D.nao D.nn D.ncap) := H.hN.cell 1
  have n2 : w.cell? ⟨D.N, 2, none⟩ = some (.string ⟨#[76]⟩) := H.hN.cell 2
  have n3 : w.cell? ⟨D.N, 3, none⟩ = some (.int .u64 1) := H.hN.cell 3
  have n4 : w.cell? ⟨D.N, 4, none⟩ = some (.int .u64 1) := H.hN.cell 4
  have lE := H.hE.lt
  have lN := H.hN.lt
  have hn4 := H.nn4
  have hlk := fun k => run_look91 (w.drewN k) D.YB _ H.hY
  unfold chV at hlk
  have hf90 := field90 D.RB D.XB
  go_enter Yba.func8, Yba.ntmps8
  go_wp2
  go_quiet (fail)
  have k0 : Keep [] w (w.drewN nq) := (Keep.refl [] w).drewN nq
  have n1' : (w.drewN nq).cell? ⟨D.N, 1, none⟩ = some (.slice D.nao D.nn D.ncap) := n1
  have lN' : D.N < (w.drewN nq).heap.size := lN
  clear hlk hf90 c41
  generalize w.drewN nq = w0 at k0 n1' lN' ⊢
  go_upto_block 0 with fail
  go_cut [7, 8, 9] from 35 to 62 (fun _ _ _ wc => Keep [] w wc ∧ ∀ m ∈ D.ns, ¬ D.bad m)
  case first =>
    go_wp2_with fail
    go_loopw [35] (fun v wr => ∃ j : Nat, j ≤ D.nn ∧ v = .int .i64 j ∧ Keep [] w wr ∧ Hid (∀ k, k < j → ∀ m, D.ns[k]? = some m → ¬ D.bad m)) (fun v _ => D.nn - (intOf v).toNat)
    case atStart => exact ⟨0, Nat.zero_le _, rfl, k0, by intro k hk; omega⟩
    case round =>
      obtain ⟨j, hj, rfl, kr, HB⟩ := hrel
      clear n1 n2 n3 n4 n1' lN' k0
      by_cases hjn : j < D.nn
      · obtain ⟨m, hm⟩ : ∃ m, D.ns[j]? = some m := ⟨D.ns[j]'(by have := H.lns; omega), List.getElem?_eq_getElem (by have := H.lns; omega)⟩
        have hmm : m ∈ D.ns := List.mem_of_getElem? hm
        obtain ⟨ad, had⟩ : ∃ ad, D.nao = some ad := by
          cases hn : D.nao with
          | none => have := H.hns.1 hn; simp at this; rw [this] at hm; simp at hm
          | some ad => exact ⟨ad, rfl⟩
        have cy := kr.cell (H.hns.2 ad had j (.string m) (by rw [List.getElem?_map, hm]; rfl)) (by simp)
        have c13 := kr.cell ((H.hE.cell 13).trans H.e13) (by simp)
        have lEr : D.E < wr.heap.size := block_lt_of_cell c13
        have hMr : Mp wr D.RB D.rkvs := (kr.block _ (Array.getElem?_eq_some_iff.1 H.hR).1 (by simp)).trans H.hR
        have hlk := run_look Yba.prog wr 34 9 43 D.RB D.rkvs m zero43 true Yba.underlying34 Yba.underlying9 zeroV43 hMr
        have HCT := unhalt (fun (w1 : World) (k : Keep [] w w1) => contains_str D.oao D.on D.ocap D.os m w1 (by have := H.on4; omega) (k.rd H.hos (by simp)) H.los)
        rw [had]
        have STEP : ¬ D.bad m → Hid (∀ k, k < j + 1 → ∀ m, D.ns[k]? = some m → ¬ D.bad m) := by
          intro hb k hk m' hm'
          by_cases hkj : k = j
          · subst hkj; rw [hm] at hm'; cases hm'; exact hb
          · exact HB.out k (by omega) m' hm'
        have STEPH := unhalt STEP
        clear STEP HB hm
        rcases H.hrep m hmm with ⟨h1, h2⟩ | ⟨LB, h1, h2, h3⟩
        · simp only [h1, if_true, Option.getD_none, Option.isSome_none] at hlk
          unfold zero43 at hlk
          clear h1
          go_wp2_with (go_at_call 11; refine halt ?_)
          refine unhalt ?_
          refine (HCT.out _ (kr.alloc _)).mono ?_
          rintro e w3 ⟨rfl, b, rfl, hb⟩
          clear HCT
          cases b with
          | true =>
            have hbad : D.bad m := ⟨hb.1 rfl, .inl h2⟩
            go_wp2
            exact bodyPost_ret (v := .bool false) (by simp [results, Yba.results8, go_sem]) rfl (.inl ⟨⟨m, hmm, hbad⟩, rfl, kr.alloc _⟩)
          | false =>
            have hbad : ¬ D.bad m := fun h => by have := hb.2 h.1; cases this
            go_wp2
            exact ⟨⟨j + 1, by omega, by go_num, kr.alloc _, STEPH.out hbad⟩, by simp [intOf]; omega⟩
        · simp only [h1, if_true, Option.getD_some, Option.isSome_some] at hlk
          generalize (if D.old m = true then D.view else D.v0) = vw at hlk
          obtain ⟨g0, hg0⟩ : ∃ g0 : ByteArray, g0 = (if D.gu m = true then ⟨#[103]⟩ else ⟨#[]⟩) := ⟨_, rfl⟩
          rw [← hg0] at hlk
          have HG0 := unhalt hg0
          clear hg0
          unfold repV at hlk
          clear h1 h3
          go_wp2_with (go_at_call 11; refine halt ?_)
          refine unhalt ?_
          refine (HCT.out _ (kr.alloc _)).mono ?_
          rintro e w3 ⟨rfl, b, rfl, hb⟩
          clear HCT hlk
          have hz0 := @List.getElem?_cons_zero Field
          have hgd := eqg33
          cases b with
          | true =>
            cases hgu : D.gu m with
            | true =>
              have hbad : D.bad m := ⟨hb.1 rfl, .inr hgu⟩
              have hg := HG0.out
              rw [hgu, if_pos rfl] at hg
              subst hg
              have hq := neq33 ⟨#[103]⟩ ⟨#[]⟩
              rw [show (!((⟨#[103]⟩ : ByteArray).toList == (⟨#[]⟩ : ByteArray).toList)) = true by simp [ByteArray.toList_eq]] at hq
              go_wp2
              exact bodyPost_ret (v := .bool false) (by simp [results, Yba.results8, go_sem]) rfl (.inl ⟨⟨m, hmm, hbad⟩, rfl, kr.alloc _⟩)
            | false =>
              have hbad : ¬ D.bad m := fun h => by rcases h.2 with h | h <;> simp_all
              have hg := HG0.out
              rw [hgu, if_neg (by simp)] at hg
              subst hg
              have hq := neq33 ⟨#[]⟩ ⟨#[]⟩
              rw [show (!((⟨#[]⟩ : ByteArray).toList == (⟨#[]⟩ : ByteArray).toList)) = false by simp [ByteArray.toList_eq]] at hq
              go_wp2
              exact ⟨⟨j + 1, by omega, by go_num, kr.alloc _, STEPH.out hbad⟩, by simp [intOf]; omega⟩
          | false =>
            have hbad : ¬ D.bad m := fun h => by have := hb.2 h.1; cases this
            go_wp2
            exact ⟨⟨j + 1, by omega, by go_num, kr.alloc _, STEPH.out hbad⟩, by simp [intOf]; omega⟩
      · have hgood : ∀ m ∈ D.ns, ¬ D.bad m := fun m hm => by
          obtain ⟨k, hk⟩ := List.mem_iff_getElem?.1 hm
          exact HB.out k (by have := (List.getElem?_eq_some_iff.1 hk).1; have := H.lns; omega) m hk
        have HG := unhalt hgood
        clear hgood HB
        go_wp2
        go_meet
        case rel => exact ⟨kr, HG.out⟩
  case rest =>
    obtain ⟨kc, hgood⟩ := hcut
    have HG := unhalt hgood
    clear hgood n1 n2 n3 n4 n1' lN' k0
    have n1 := kc.cell (H.hN.cell 1) (by simp)
    have lNc : D.N < wc.heap.size := (kc.blk H.hN (by simp)).lt
    have T0 : TI D w 0 wc := ⟨_, kc.blk H.hN (by simp), by simpa [FixD.tr] using World.ownsRow_nil .., kc.mono (by simp)⟩
    obtain ⟨i0, hi, hz0, hz1, hz2⟩ := info_parts info9
    go_upto_block 2 with fail
    go_cut [11, 12, 13] from 69 to 101 (fun _ _ _ wx => TI D w D.nn wx)
    case first =>
      go_wp2_with fail
      go_loopw [69] (fun v wr => ∃ j : Nat, j ≤ D.nn ∧ v = .int .i64 j ∧ TI D w j wr) (fun v _ => D.nn - (intOf v).toNat)
      case atStart => exact ⟨0, Nat.zero_le _, rfl, T0⟩
      case round =>
        obtain ⟨j, hj, rfl, tr⟩ := hrel
        clear T0 kc n1 lNc
        by_cases hjn : j < D.nn
        · obtain ⟨m, hm⟩ : ∃ m, D.ns[j]? = some m := ⟨D.ns[j]'(by have := H.lns; omega), List.getElem?_eq_getElem (by have := H.lns; omega)⟩
          have hmm : m ∈ D.ns := List.mem_of_getElem? hm
          obtain ⟨ad, had⟩ : ∃ ad, D.nao = some ad := by
            cases hn : D.nao with
            | none => have := H.hns.1 hn; simp at this; rw [this] at hm; simp at hm
            | some ad => exact ⟨ad, rfl⟩
          have kr : Keep [D.N] w wr := tr.choose_spec.2.2
          have hEN : D.E ≠ D.N := H.hE.ne H.hN (by decide)
          have cy := kr.cell (H.hns.2 ad had j (.string m) (by rw [List.getElem?_map, hm]; rfl)) (by
            have := (H.nfar ad had).2
            have hadd : (ad.add j).block = ad.block := by unfold Addr.add; split <;> rfl
            rw [hadd]; simp [FixD.ids] at this ⊢; omega)
          have c12 := kr.cell ((H.hE.cell 12).trans H.e12) (by simpa using hEN)
          have lEr : D.E < wr.heap.size := block_lt_of_cell c12
          have hRN : D.RB ≠ D.N := fun e => by have h1 := H.hR; rw [e] at h1; have := H.hN.symm.trans h1; cases this
          have hMr : Mp wr D.RB D.rkvs := (kr.block _ (Array.getElem?_eq_some_iff.1 H.hR).1 (by simpa using hRN)).trans H.hR
          have hlk := run_look Yba.prog wr 34 9 43 D.RB D.rkvs m zero43 true Yba.underlying34 Yba.underlying9 zeroV43 hMr
          have htr : D.tr (j + 1) = if (D.pres m && D.old m) = true then D.tr j ++ [m] else D.tr j := by
            unfold FixD.tr
            rw [List.take_add_one, hm, List.filter_append]
            by_cases h : (D.pres m && D.old m) = true <;> simp [h]
          have HTR := unhalt htr
          clear htr
          rw [had]
          clear hm kr
          rcases H.hrep m hmm with ⟨h1, h2⟩ | ⟨LB, h1, h2, h3⟩
          · simp only [h1, if_true, Option.getD_none, Option.isSome_none] at hlk
            unfold zero43 at hlk
            have e1 : D.tr (j + 1) = D.tr j := by rw [HTR.out]; simp [h2]
            have E1 := unhalt e1
            clear h1 e1
            go_wp2
            go_quiet (fail)
            have k9 := ((Keep.refl [] wr).alloc (Obj.cells #[.string ⟨#[]⟩, .int .u64 0, .int .u64 0, .string ⟨#[]⟩, .int .u64 0, .int .u64 0, .string ⟨#[]⟩, .string ⟨#[]⟩, .int .u64 0, .int .u64 0, .slice none 0 0, .map none, .string ⟨#[]⟩, .map none] 43)).drewN nq
            go_wp2
            exact ⟨⟨j + 1, by omega, by go_num, by unfold TI; rw [E1.out]; exact tr.keep k9⟩, by simp [intOf]; omega⟩
          · simp only [h1, if_true, Option.getD_some, Option.isSome_some] at hlk
            obtain ⟨g0, hg0⟩ : ∃ g0 : ByteArray, g0 = (if D.gu m = true then ⟨#[103]⟩ else ⟨#[]⟩) := ⟨_, rfl⟩
            rw [← hg0] at hlk
            clear hg0
            cases hol : D.old m with
            | true =>
              rw [hol, if_pos rfl] at hlk
              unfold repV at hlk
              have e1 : D.tr (j + 1) = D.tr j ++ [m] := by rw [HTR.out]; simp [h2, hol]
              have E1 := unhalt e1
              clear h1 e1 h3
              go_wp2
              go_quiet (fail)
              have k9 := ((Keep.refl [] wr).alloc (Obj.cells #[.string ⟨#[76]⟩, .int .u64 1, .int .u64 1, .string g0, .int .u64 0, .int .u64 0, .string ⟨#[]⟩, .string ⟨#[]⟩, .int .u64 0, .int .u64 0, .slice none 0 0, .map none, .string D.view, .map (some LB)] 43)).drewN nq
              have t9 := tr.keep k9
              generalize (wr.alloc (Obj.cells #[.string ⟨#[76]⟩, .int .u64 1, .int .u64 1, .string g0, .int .u64 0, .int .u64 0, .string ⟨#[]⟩, .string ⟨#[]⟩, .int .u64 0, .int .u64 0, .slice none 0 0, .map none, .string D.view, .map (some LB)] 43)).drewN nq = w9 at t9 ⊢
              obtain ⟨v, b1, b2, b3⟩ := t9
              have d5 : w9.cell? ⟨D.N, 5, none⟩ = some v := b1.cell 5
              have lN9 := b1.lt
              have hm := hz0
              clear k9 tr hlk cy c12 lEr hMr
              go_wp2_with (at_builtin; refine halt ?_)
              refine unhalt ?_
              have b1a := b1.alloc (.cells #[.string m] 9)
              have b2a := b2.alloc (.cells #[.string m] 9)
              have b3a : Keep [D.N] w (w9.alloc (.cells #[.string m] 9)) := b3.alloc _
              have hnb := Blk.new' w9 #[.string m] 9 w9.heap.size rfl
              have sz9 : w.heap.size ≤ w9.heap.size := b3.size
              generalize w9.alloc (.cells #[.string m] 9) = wb at b1a b2a b3a hnb ⊢
              refine wpList_append_own _ rfl (.tmp 95) (.tmp 97) 29 rfl w.heap.size 9 i0 (.string ⟨#[]⟩) 1 16 Yba.underlying29 hi hz0 hz1 hz2 rfl (by decide) v _ _ rfl b2a ⟨w9.heap.size, 0, none⟩ 1 1 [.string m] rfl rfl ?_ (by simp [Value.oneCell']) ?_ ?_ b3a.size ?_
              · intro k u hk
                rw [Addr.add_lit, hnb.cell (0 + k), Nat.zero_add]; exact hk
              · have : (D.tr j).length ≤ 4 := Nat.le_trans (List.length_filter_le _ _) (by simp; omega)
                unfold maxLen; omega
              · have : (D.tr j).length ≤ 4 := Nat.le_trans (List.length_filter_le _ _) (by simp; omega)
                omega
              intro v2 wz o2 hg2 _
              have hNz : Blk wz D.N 86 (D.nc v (.map none)) := b1a.kept hg2 (fun e => by have := (owns_lt b2a _ e.symm).1; omega)
              have q5 : wz.cell? ⟨D.N, 5, none⟩ = some v := hNz.cell 5
              have f5 := hNz.free 5
              have lNz := hNz.lt
              have hfin : TI D w (j + 1) (wz.setCell ⟨D.N, 5, none⟩ v2) := by
                have kz : Keep [D.N] w wz := b3a.grown hg2 (fun k hk hlt => by have := (owns_lt b2a k hk).1; omega)
                refine ⟨v2, hNz.set 5 v2, ?_, kz.setCell _ _ (by simp)⟩
                rw [E1.out, List.map_append, List.length_append]
                exact owns_keep o2 ((Keep.refl [D.N] wz).setCell _ _ (by simp)) (fun g hg => by simp; omega)
              obtain ⟨g3, cap3, hv2⟩ := ownsRow_succ o2
              subst hv2
              have HF := unhalt hfin
              clear hfin b1 b2 b3 b1a b2a b3a hnb o2 hg2 hNz d5 hm
              go_wp2
              exact ⟨⟨j + 1, by omega, by go_num, HF.out⟩, by simp [intOf]; omega⟩
            | false =>
              rw [hol, if_neg (by simp)] at hlk
              unfold repV at hlk
              have e1 : D.tr (j + 1) = D.tr j := by rw [HTR.out]; simp [hol]
              have E1 := unhalt e1
              have q : (D.v0.toList == D.view.toList) = false := beq_eq_false_iff_ne.2 fun e => H.hv0 (bytes_ext e)
              clear h1 e1 h3
              go_wp2
              go_quiet (fail)
              have k9 := ((Keep.refl [] wr).alloc (Obj.cells #[.string ⟨#[76]⟩, .int .u64 1, .int .u64 1, .string g0, .int .u64 0, .int .u64 0, .string ⟨#[]⟩, .string ⟨#[]⟩, .int .u64 0, .int .u64 0, .slice none 0 0, .map none, .string D.v0, .map (some LB)] 43)).drewN nq
              go_wp2
              exact ⟨⟨j + 1, by omega, by go_num, by unfold TI; rw [E1.out]; exact tr.keep k9⟩, by simp [intOf]; omega⟩
        · obtain rfl : j = D.nn := by omega
          go_wp2
          go_meet
          case rel => exact tr
    case rest =>
      have htr : D.tr D.nn = D.trans := by unfold FixD.tr FixD.trans; rw [List.take_of_length_le (by have := H.lns; omega)]
      obtain ⟨v, b1, b2, b3⟩ := hcut
      rw [htr] at b2
      clear htr T0 kc n1 lNc
      have ltr : D.trans.length ≤ 4 := Nat.le_trans (List.length_filter_le _ _) (by have := H.lns; omega)
      have d6 : wc.cell? ⟨D.N, 6, none⟩ = some (.map none) := b1.cell 6
      have f6 := b1.free 6
      have d5 : wc.cell? ⟨D.N, 5, none⟩ = some v := b1.cell 5
      have lNx := b1.lt
      obtain ⟨tao, tc, hv⟩ : ∃ tao tc, v = .slice tao D.trans.length tc := by
        rcases b2.2 with ⟨h1, h2⟩ | ⟨g, cap, cur, h1, _⟩
        · exact ⟨none, 0, by rw [h1, h2]⟩
        · exact ⟨_, cap, h1⟩
      subst hv
      have hmk := run_mkmap37 wc
      have f6a := (b1.alloc (.map #[] 0)).free 6
      have d6a : (wc.alloc (.map #[] 0)).cell? ⟨D.N, 6, none⟩ = some (.map none) := (b1.alloc (.map #[] 0)).cell 6
      have CB0 : w.heap.size ≤ wc.heap.size := b3.size
      have CI0 : CI D w wc.heap.size (.slice tao D.trans.length tc) (fun _ => False) ((wc.setCell ⟨D.N, 6, none⟩ (.map (some wc.heap.size))).alloc (.map #[] 0)) := by
        have k9 : Keep [D.N] wc ((wc.setCell ⟨D.N, 6, none⟩ (.map (some wc.heap.size))).alloc (.map #[] 0)) := ((Keep.refl [D.N] wc).setCell _ _ (by simp)).alloc _
        refine ⟨[], (b1.set 6 _).alloc _, owns_keep b2 k9 (fun g hg => by simp; omega), b3.trans k9 (by simp), ?_, by simp, by simp [lookI], by simp⟩
        have hs : (wc.setCell ⟨D.N, 6, none⟩ (.map (some wc.heap.size))).heap.size = wc.heap.size := by simp
        have hh := heap_alloc_new (wc.setCell ⟨D.N, 6, none⟩ (.map (some wc.heap.size))) (.map #[] 0)
        rw [hs] at hh
        exact hh
      go_upto_block 4 with fail
      obtain ⟨CB, hCB⟩ : ∃ CB, CB = wc.heap.size := ⟨_, rfl⟩
      have hCBw : w.heap.size ≤ CB := by omega
      rw [← hCB] at CI0 ⊢
      generalize ((wc.setCell ⟨D.N, 6, none⟩ (.map (some CB))).alloc (.map #[] 0)) = W0 at CI0 ⊢
      have HB3 := unhalt b3
      clear hmk f6a d6a d6 f6 d5 b1 b2 b3 lNx hCB CB0
      have hEN : D.E ≠ D.N := H.hE.ne H.hN (by decide)
      have hRN : D.RB ≠ D.N := fun e => by have h1 := H.hR; rw [e] at h1; have := H.hN.symm.trans h1; cases this
      have hon4 := H.on4
      go_cut [15, 16, 17] from 111 to 146 (fun _ _ _ wy => CI D w CB (.slice tao D.trans.length tc) (fun p => ∃ t ∈ D.trans, p ∈ D.lasts t) wy)
      case first =>
        go_wp2_with fail
        go_loopw [111] (fun v wr => ∃ j : Nat, j ≤ D.trans.length ∧ v = .int .i64 j ∧ CI D w CB (.slice tao D.trans.length tc) (fun p => ∃ k, k < j ∧ ∃ t, D.trans[k]? = some t ∧ p ∈ D.lasts t) wr) (fun v _ => D.trans.length - (intOf v).toNat)
        case atStart => exact ⟨0, Nat.zero_le _, rfl, CI0.congr (fun p => by simp)⟩
        case round =>
          obtain ⟨j, hj, rfl, ci⟩ := hrel
          clear CI0
          by_cases hjn : j < D.trans.length
          · obtain ⟨t, ht⟩ : ∃ t, D.trans[j]? = some t := ⟨D.trans[j], List.getElem?_eq_getElem hjn⟩
            have htm : t ∈ D.trans := List.mem_of_getElem? ht
            have htf := List.mem_filter.1 htm
            obtain ⟨LB, h1, h2, h3⟩ : ∃ LB, look t D.rkvs = some (repV (if D.gu t = true then ⟨#[103]⟩ else ⟨#[]⟩) (if D.old t = true then D.view else D.v0) LB) ∧ D.pres t = true ∧ Mp w LB (cutKvs (D.lasts t)) := by
              rcases H.hrep t htf.1 with ⟨_, h2⟩ | h
              · have := htf.2; rw [h2] at this; simp at this
              · exact h
            obtain ⟨g0, hg0⟩ : ∃ g0 : ByteArray, g0 = (if D.gu t = true then ⟨#[103]⟩ else ⟨#[]⟩) := ⟨_, rfl⟩
            obtain ⟨vw, hvw⟩ : ∃ vw : ByteArray, vw = (if D.old t = true then D.view else D.v0) := ⟨_, rfl⟩
            rw [← hg0, ← hvw] at h1
            clear hg0 hvw
            obtain ⟨cs0, c1, c2, c3, c4, c5⟩ := id ci
            obtain ⟨ad, had⟩ : ∃ ad, tao = some ad := by
              rcases c2.2 with ⟨_, h⟩ | ⟨g, cap, cur, h, _⟩
              · omega
              · cases h; exact ⟨_, rfl⟩
            subst had
            have cy : wr.cell? (ad.add j) = some (.string t) := by
              rcases c2.2 with ⟨h, _⟩ | ⟨g, cap, cur, h, _⟩
              · cases h
              · have := c2.cells (g := g) (by rw [h]; rfl) j (.string t) (by rw [List.getElem?_map, ht]; rfl)
                cases h; exact this
            have hLN : LB ≠ D.N := fun e => by rw [e] at h3; have := H.hN.symm.trans h3; cases this
            have hMr : Mp wr D.RB D.rkvs := (c3.block _ (Array.getElem?_eq_some_iff.1 H.hR).1 (by simpa using hRN)).trans H.hR
            have hMl : Mp wr LB (cutKvs (D.lasts t)) := (c3.block _ (Array.getElem?_eq_some_iff.1 h3).1 (by simpa using hLN)).trans h3
            have hlk := run_look Yba.prog wr 34 9 43 D.RB D.rkvs t zero43 false Yba.underlying34 Yba.underlying9 zeroV43 hMr
            simp only [h1, Bool.false_eq_true, if_false, Option.getD_some] at hlk
            have f1 := field43 g0 vw LB
            have f2 := field41 vw LB
            have hrg := run_range_mp Yba.prog wr 37 9 31 LB _ Yba.underlying37 hMl
            clear h1
            have ckl : (cutKvs (D.lasts t)).length = (D.lasts t).length := by simp [cutKvs]
            rw [ckl] at hrg
            have iA : It (wr.alloc (.mapIter (some LB) (D.lasts t).length #[] (D.lasts t).length)) wr.heap.size LB (D.lasts t).length #[] := heap_alloc_new wr _
            have ciA := ci.keep ((Keep.refl [] wr).alloc (.mapIter (some LB) (D.lasts t).length #[] (D.lasts t).length))
            have hCBr : CB < wr.heap.size := (Array.getElem?_eq_some_iff.1 c4).1
            have hNr : D.N < wr.heap.size := c1.lt
            have hwr : w.heap.size ≤ wr.heap.size := c3.size
            go_wp2
            generalize wr.alloc (.mapIter (some LB) (D.lasts t).length #[] (D.lasts t).length) = wA at iA ciA ⊢
            obtain ⟨r, hr⟩ : ∃ r, r = wr.heap.size := ⟨_, rfl⟩
            rw [← hr] at iA hCBr hNr hwr ⊢
            obtain ⟨UP, hUP⟩ : ∃ UP : ByteArray × Int → Prop, UP = fun p => ∃ k, k < j ∧ ∃ t, D.trans[k]? = some t ∧ p ∈ D.lasts t := ⟨_, rfl⟩
            rw [← hUP] at ciA
            have HUP := unhalt hUP
            clear hUP hr hrg hlk f1 f2 cy c1 c2 c3 c4 c5 ci hMr hMl
            go_loopw [121] (fun _ wq => ∃ seen : Array Nat, It wq r LB (D.lasts t).length seen ∧ seen.toList.Nodup ∧ (∀ i ∈ seen, i < (D.lasts t).length) ∧ CI D w CB (.slice (some ad) D.trans.length tc) (fun p => UP p ∨ ∃ i, i ∈ seen ∧ (D.lasts t)[i]? = some p) wq) (fun _ wq => (D.lasts t).length - seenOf wq r)
            case atStart => exact ⟨#[], iA, by simp, by simp, ciA.congr (fun p => by simp)⟩
            case round =>
              obtain ⟨seen, I1, I2, I3, I4⟩ := hrel
              clear iA ciA
              obtain ⟨cs, c1, c2, c3, c4, c5⟩ := id I4
              have hMl : Mp wr LB (cutKvs (D.lasts t)) := (c3.block _ (Array.getElem?_eq_some_iff.1 h3).1 (by simpa using hLN)).trans h3
              rcases next_step Yba.prog wr 0 r LB (cutKvs (D.lasts t)) seen hMl (by rw [ckl]; exact I1) with ⟨hall, hnx⟩ | ⟨i, p, w2, hi, hns, hnx, hen, J1, J2, J3⟩
              · have hfin : CI D w CB (.slice (some ad) D.trans.length tc) (fun p => ∃ k, k < j + 1 ∧ ∃ t, D.trans[k]? = some t ∧ p ∈ D.lasts t) wr := I4.congr (fun p => by
                  rw [HUP.out]
                  constructor
                  · rintro (⟨k, hk, t', ht', hp⟩ | ⟨i, _, hi⟩)
                    · exact ⟨k, by omega, t', ht', hp⟩
                    · exact ⟨j, by omega, t, ht, List.mem_of_getElem? hi⟩
                  · rintro ⟨k, hk, t', ht', hp⟩
                    by_cases hkj : k = j
                    · subst hkj
                      rw [ht] at ht'
                      cases ht'
                      obtain ⟨i, hi⟩ := List.mem_iff_getElem?.1 hp
                      exact .inr ⟨i, hall i (by rw [ckl]; exact (List.getElem?_eq_some_iff.1 hi).1), hi⟩
                    · exact .inl ⟨k, by omega, t', ht', hp⟩)
                have HF := unhalt hfin
                clear hfin I4 c1 c2 c3 c4 c5
                go_wp2
                exact ⟨⟨j + 1, by omega, by go_num, HF.out⟩, by simp [intOf]; omega⟩
              · obtain ⟨⟨sd, sq⟩, hq, rfl⟩ : ∃ q, (D.lasts t)[i]? = some q ∧ p = (q.1, .int .u64 q.2) := by
                  unfold cutKvs at hi
                  rw [List.getElem?_map, Option.map_eq_some_iff] at hi
                  obtain ⟨q, h1, h2⟩ := hi
                  exact ⟨q, h1, h2.symm⟩
                have hqm : (sd, sq) ∈ D.lasts t := List.mem_of_getElem? hq
                have hil : i < (D.lasts t).length := (List.getElem?_eq_some_iff.1 hq).1
                have hsq := (H.lnn t _ hqm).1
                rw [ckl] at J1
                have hnd : (seen.push i).toList.Nodup := by
                  rw [Array.toList_push, List.nodup_append]
                  exact ⟨I2, by simp, by intro a ha b hb; simp at hb; subst hb; intro h; subst h; exact hns (by simpa using ha)⟩
                have hal : ∀ k ∈ seen.push i, k < (D.lasts t).length := fun k hk => by
                  rcases Array.mem_push.1 hk with h | rfl
                  · exact I3 k h
                  · exact hil
                have hsl : (seen.push i).size ≤ (D.lasts t).length := by
                  have := nodup_le (D.lasts t).length (seen.push i).toList hnd (fun k hk => hal k (by simpa using hk))
                  simpa using this
                have hUU : ∀ p, ((UP p ∨ ∃ i, i ∈ seen ∧ (D.lasts t)[i]? = some p) ∨ p = (sd, sq)) ↔ (UP p ∨ ∃ k, k ∈ seen.push i ∧ (D.lasts t)[k]? = some p) := fun p => by
                  constructor
                  · rintro ((h | ⟨k, h1, h2⟩) | rfl)
                    · exact .inl h
                    · exact .inr ⟨k, Array.mem_push.2 (.inl h1), h2⟩
                    · exact .inr ⟨i, Array.mem_push.2 (.inr rfl), hq⟩
                  · rintro (h | ⟨k, h1, h2⟩)
                    · exact .inl (.inl h)
                    · rcases Array.mem_push.1 h1 with h | rfl
                      · exact .inl (.inr ⟨k, h, h2⟩)
                      · rw [hq] at h2; cases h2; exact .inr rfl
                have REL := unhalt (fun (w' : World) (h1 : It w' r LB (D.lasts t).length (seen.push i)) (h2 : CI D w CB (.slice (some ad) D.trans.length tc) (fun p => (UP p ∨ ∃ i, i ∈ seen ∧ (D.lasts t)[i]? = some p) ∨ p = (sd, sq)) w') =>
                  (⟨⟨seen.push i, h1, hnd, hal, h2.congr hUU⟩, by rw [seenOf_it h1, seenOf_it I1]; simp at hsl ⊢; omega⟩ :
                    (∃ seen : Array Nat, It w' r LB (D.lasts t).length seen ∧ seen.toList.Nodup ∧ (∀ i ∈ seen, i < (D.lasts t).length) ∧ CI D w CB (.slice (some ad) D.trans.length tc) (fun p => UP p ∨ ∃ i, i ∈ seen ∧ (D.lasts t)[i]? = some p) w') ∧ (D.lasts t).length - seenOf w' r < (D.lasts t).length - seenOf wr r))
                have hrcell : ∀ cs e f, wr.heap[r]? ≠ some (.cells cs e f) := fun cs e f h => by have := I1.symm.trans h; cases this
                have ci2 := I4.up J2 hwr (by omega) (by omega) hrcell
                clear hUU hal hnd hsl I2 I3 I4 c1 c2 c3 c4 c5 hMl hi hq
                obtain ⟨cs, c1, c2, c3, c4, c5⟩ := id ci2
                have c13 := c3.cell ((H.hE.cell 13).trans H.e13) (by simpa using hEN)
                have lE2 : D.E < w2.heap.size := block_lt_of_cell c13
                have HCT := unhalt (contains_str D.oao D.on D.ocap D.os sd w2 (by omega) (c3.rd H.hos (fun x hx => by have := (H.ofar x hx).2; simp [FixD.ids] at this ⊢; omega)) H.los)
                go_wp2_with (go_at_call 11; refine halt ?_)
                refine unhalt ?_
                refine HCT.out.mono ?_
                rintro e w3 ⟨rfl, b, rfl, hb⟩
                clear HCT hnx hen c13
                cases b with
                | false =>
                  have hin : sd ∉ D.os := fun h => by have := hb.2 h; cases this
                  have H0 := unhalt (REL.out w3 J1 ⟨cs, c1, c2, c3, c4, c5.out hin⟩)
                  clear REL c1 c2 c3 c4 c5 ci2
                  go_wp2
                  exact H0.out
                | true =>
                  have hin : sd ∈ D.os := hb.1 rfl
                  have kd := (Keep.refl [] w3).drew
                  have c4d : Mp w3.drew CB (cutKvs cs) := c4
                  have hlk := run_look Yba.prog w3.drew 37 9 31 CB (cutKvs cs) sd (.int .u64 0) false Yba.underlying37 Yba.underlying9 zeroV31 c4d
                  rw [look_cutD] at hlk
                  simp only [Bool.false_eq_true, if_false] at hlk
                  obtain ⟨w5, hput, p1, p2, p3⟩ := put_step w3.drew CB cs sd (max ((lookI sd cs).getD 0) sq) c4d
                  have hN5 : Blk w5 D.N 86 (D.nc (.slice (some ad) D.trans.length tc) (.map (some CB))) := p2.blk c1.drew (by simp; omega)
                  have d6 : w3.drew.cell? ⟨D.N, 6, none⟩ = some (.map (some CB)) := c1.cell 6
                  have d65 : w5.cell? ⟨D.N, 6, none⟩ = some (.map (some CB)) := hN5.cell 6
                  have lN3 : D.N < w3.heap.size := c1.lt
                  have H0 := unhalt (REL.out w5 ((p2.block r (Array.getElem?_eq_some_iff.1 J1).1 (by simp; omega)).trans J1) (by
                    refine ⟨putI sd (max ((lookI sd cs).getD 0) sq) cs, hN5, ?_, (c3.drew).trans p2 (fun x hx hlt => by simp at hx; omega), p1, c5.put hin hsq⟩
                    exact ⟨c2.1, orR c2.2 fun ⟨g, cap, cur, a1, a2, a3, a4⟩ => ⟨g, cap, cur, a1, a2, (p2.block g (Array.getElem?_eq_some_iff.1 a3).1 (by simp; intro e; subst e; have := a3.symm.trans c4; cases this)).trans a3, a4⟩⟩))
                  clear REL c1 c2 c3 c4 c5 ci2 p1 p2 p3 J1 J2 J3 hb hN5 c4d kd hns I1
                  generalize (lookI sd cs).getD 0 = cur at hlk hput
                  by_cases hlt : cur < sq
                  · rw [Int.max_eq_right (by omega)] at hput
                    go_wp2
                    go_region_held3 (fun w' => w'.cell? ⟨D.N, 6, none⟩ = some (.map (some CB))) (first | assumption) (fail)
                    go_wp2
                    exact H0.out
                  · rw [Int.max_eq_left (by omega)] at hput
                    go_wp2
                    go_region_held3 (fun w' => w'.cell? ⟨D.N, 6, none⟩ = some (.map (some CB))) (first | assumption) (fail)
                    go_wp2
                    exact H0.out
          · obtain rfl : j = D.trans.length := by omega
            have hfin := ci.congr (U' := fun p => ∃ t ∈ D.trans, p ∈ D.lasts t) (fun p => ⟨fun ⟨k, hk, t, ht, hp⟩ => ⟨t, List.mem_of_getElem? ht, hp⟩, fun ⟨t, ht, hp⟩ => by
              obtain ⟨k, hk⟩ := List.mem_iff_getElem?.1 ht
              exact ⟨k, (List.getElem?_eq_some_iff.1 hk).1, t, hk, hp⟩⟩)
            go_wp2
            go_meet
            case rel => exact hfin
      case rest =>
        obtain ⟨cs, c1, c2, c3, c4, c5⟩ := hcut
        clear CI0
        have hSN : D.SB ≠ D.N := H.hSB.ne H.hN (by decide)
        have hDN : D.DB ≠ D.N := H.hDB.ne H.hN (by decide)
        have hHN : D.HR ≠ D.N := H.hHR.ne H.hN (by decide)
        have hES : D.E ≠ D.SB := H.hE.ne H.hSB (by decide)
        have hDS : D.DB ≠ D.SB := H.hDB.ne H.hSB (by decide)
        have hHS : D.HR ≠ D.SB := H.hHR.ne H.hSB (by decide)
        have lSB := H.hSB.lt
        have lDB := H.hDB.lt
        have lHR := H.hHR.lt
        have hEc := c3.blk H.hE (by simpa using hEN)
        have hSc := c3.blk H.hSB (by simpa using hSN)
        have hDc := c3.blk H.hDB (by simpa using hDN)
        have hHc := c3.blk H.hHR (by simpa using hHN)
        have mpc : ∀ {b kvs}, Mp w b kvs → Mp wc b kvs := fun {b kvs} h => by
          have hb : b ≠ D.N := fun e => by subst e; have := H.hN.symm.trans h; cases this
          exact (c3.block b (Array.getElem?_eq_some_iff.1 h).1 (by simpa using hb)).trans h
        have hcsin : ∀ p ∈ cs, p.1 ∈ D.os ∧ ∃ t ∈ D.trans, p ∈ D.lasts t := fun p hp => c5.sound p.1 p.2 (mem_lookI c5.nd hp)
        have lcs : cs.length ≤ 4 := by
          have h1 := nodup_sub D.os (cs.map (·.1)) c5.nd (fun x hx => by
            obtain ⟨p, hp, rfl⟩ := List.mem_map.1 hx
            exact (hcsin p hp).1)
          have h2 := H.los
          simp only [List.length_map] at h1
          omega
        obtain ⟨rdt, fart⟩ := owns_rd c2
        have HFW := unhalt (forward_any D.E D.N D.SB CB D.RB D.KM D.trans.length tc tao D.self D.view D.ec _ D.trans cs D.rkvs D.kkvs D.lastv D.kc D.kn wc hEc c1 hSc c4 (mpc H.hR) (mpc H.hK) H.e0 H.e6 H.e12 H.e27 H.e43 rfl rfl rdt
          (fun x hx => ⟨by have := (fart x hx).1; omega, (fart x hx).2⟩) rfl ltr lcs
          (fun t ht => by
            have htf := List.mem_filter.1 ht
            rcases H.hrep t htf.1 with ⟨_, h2⟩ | ⟨LB, h1, h2, h3⟩
            · have := htf.2; rw [h2] at this; simp at this
            · exact ⟨_, _, LB, _, h1, mpc h3, fun p _ => look_cutD p.1 (D.lasts t)⟩)
          (fun p hp => by
            rcases H.hkept p.1 (hcsin p hp).1 with h | ⟨K, h1, h2⟩
            · exact .inl h
            · exact .inr ⟨K, h1, h2.of fun g e ds he hb => c3.blk hb (by simp; exact hb.ne H.hN (by rintro rfl; simp at he))⟩)
          (fun p _ => H.hkn p.1) (fun p hp => by
            obtain ⟨_, t, _, hm⟩ := hcsin p hp
            exact (H.lnn t p hm).2) H.hvw)
        go_wp2_with (go_at_call 12; refine halt ?_)
        refine unhalt ?_
        refine HFW.out.mono ?_
        rintro e w1 ⟨rfl, seen, s1, s2, s3, s4⟩
        clear HFW
        have hN1 := s4.blk c1 (by simpa using fun e => hSN e.symm)
        have hE1 := s4.blk hEc (by simpa using hES)
        have hD1 := s4.blk hDc (by simpa using hDS)
        have hH1 := s4.blk hHc (by simpa using hHS)
        have hCS : CB ≠ D.SB := by omega
        have hM1 : Mp w1 CB (cutKvs cs) := (s4.block CB (Array.getElem?_eq_some_iff.1 c4).1 (by simpa using hCS)).trans c4
        have HDH := unhalt (dh_any D.E D.DB D.HR CB D.n D.view D.ec D.hs (cutKvs cs) (fun s => (lookI s cs).getD 0) w1 H.hn H.hn2 hE1 hH1 hD1 hM1 H.e7 H.e12 H.e42 H.e49 H.e50 (fun p _ => look_cutD p.1 cs)
          (fun p hp => by
            obtain ⟨h1, h2, h3⟩ := H.hmsg p hp
            simp only [FixD.ids, List.mem_cons, List.not_mem_nil, or_false, not_or] at h3
            refine ⟨s4.rd (c3.rd h1 (fun x hx => by cases hx; simpa using h3.1)) (fun x hx => by cases hx; simpa using h3.2.2.1), Nat.lt_of_lt_of_le h2 (Nat.le_trans c3.size s4.size), by simp; omega⟩))
        have d6 : w1.cell? ⟨D.N, 6, none⟩ = some (.map (some CB)) := hN1.cell 6
        have lN1 := hN1.lt
        have FIN := unhalt (fun (w2 : World) (bo : Option Nat) (bv : Value) (junk : List Value) (t1 : Blk w2 D.E 109 ((D.ec.set 50 bv).set 42 (.slice (some ⟨D.HR, 0, none⟩) (stay (fun s => (lookI s cs).getD 0) D.hs).length D.n))) (t2 : Blk w2 D.HR 64 (flat D.view (stay (fun s => (lookI s cs).getD 0) D.hs) ++ junk))
            (t3 : Dels w1.heap.size w2 D.DB bo ((gone (fun s => (lookI s cs).getD 0) D.hs).map (dcells D.view))) (t4 : Keep [D.E, D.DB, D.HR] w1 w2) => (by
          refine ⟨cs, CB, tao, tc, seen, bo, bv, junk, t4.blk hN1 (by simp; omega), ?_, ?_, c5, s1, s2, ?_, t1, t2, ?_, ?_⟩
          · refine t4.rd (s4.rd rdt (fun x hx => by have := (fart x hx).1; simp; omega)) (fun x hx => by have := (fart x hx).1; simp; omega)
          · exact (t4.block CB (Array.getElem?_eq_some_iff.1 hM1).1 (by simp; omega)).trans hM1
          · exact sends_typed s3 fun g e ds he hb => t4.blk hb (by
              have x1 := fun h : e ≠ 109 => hb.ne hE1 h
              have x2 := fun h : e ≠ 66 => hb.ne hD1 h
              have x3 := fun h : e ≠ 64 => hb.ne hH1 h
              simp only [List.mem_cons, List.not_mem_nil, or_false, not_or]
              rcases he with rfl | rfl | rfl | rfl <;> exact ⟨x1 (by decide), x2 (by decide), x3 (by decide)⟩)
          · obtain ⟨v, xs, y1, y2, y3⟩ := t3
            exact ⟨v, xs, y1, owns_mono y2 (Nat.zero_le _), y3⟩
          · exact ((c3.mono (T := D.ids) (by simp [FixD.ids])).trans (s4.mono (T := D.ids) (by simp [FixD.ids])) (fun _ h _ => h)).trans (t4.mono (T := D.ids) (by simp [FixD.ids])) (fun _ h _ => h) : FixOut D w w2))
        clear c1 c2 c3 c4 c5 s1 s2 s3 s4 rdt fart hN1 hE1 hD1 hH1 hM1 hEc hSc hDc hHc
        go_wp2_with (go_at_call 13; refine halt ?_)
        refine unhalt ?_
        refine HDH.out.mono ?_
        rintro e w2 ⟨rfl, bo, bv, junk, t1, t2, t3, t4⟩
        have HO := unhalt (FIN.out w2 bo bv junk t1 t2 t3 t4)
        clear t1 t2 t3 t4 HDH FIN
        go_wp2
        exact bodyPost_ret (v := .bool true) (by simp [results, Yba.results8, go_sem]) rfl (.inr ⟨HG.out, rfl, HO.out⟩)
end Go.Proofs.Ybulkdfze
