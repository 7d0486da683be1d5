import Derived.Test.YbulkdfzeLawDG
import Derived.Laws.EntriesVeiled
namespace Go.Proofs.Ybulkdfze
open Go Go.RowKit Go.Lib Go.Shelf
set_option maxRecDepth 1000000 in
set_option maxHeartbeats 8000000 in
theorem phaseE (D : LD) (H : D.Ok) (I : LI) (J : LB) (J2 : LC) (J3 : LH) (a : Act) (w : World) (HS : SA D I a) (HS2 : SB1 J a) (HS3 : SC J2 a) (HS4 : SD D J3 a) (HF : FA D I w) (HB : FB D J w) (HC : FC D J2 w) (HD : FD D J3 w)
    (next0 : ∀ X a' w', SL D I J J2 J3 X false a' → FZ D I J J2 J3 w' → HsIs D J3.hs → Fno D I J3 X w' → (∃ m ∈ namesOf (pickN D.N 4), (mkFD D I J J2 J3 X).bad m) → Code.wp Yba.prog (C3 Yba.f3 24) (LQ D) a' w')
    (next1 : ∀ X a' wp w', SL D I J J2 J3 X true a' → FZ D I J J2 J3 w' → HsIs D J3.hs → FixOut (mkFD D I J J2 J3 X) wp w' → 42 < X.ec.length → (∀ m ∈ namesOf (pickN D.N 4), ¬ (mkFD D I J J2 J3 X).bad m) → Code.wp Yba.prog (C3 Yba.f3 24) (LQ D) a' w') : Code.wp Yba.prog (C3 Yba.f3 18) (LQ D) a w := by
  have HN0 := unhalt next0
  have HN1 := unhalt next1
  clear next0 next1
  obtain ⟨u, hu, rfl⟩ := frame_of a HS.hs HS.hd
  have e5 := hu 5 _ HS.s5
  have e8 := hu 8 _ HS.s8
  have e10 := hu 10 _ HS.s10
  have e13 := hu 13 _ HS.s13
  have e14 := hu 14 _ HS.s14
  have e15 := hu 15 _ HS.s15
  have e16 := hu 16 _ HS.s16
  have e17 := hu 17 _ HS.s17
  have e19 := hu 19 _ HS.s19
  have e20 := hu 20 _ HS2.s20
  have e21 := hu 21 _ HS2.s21
  have e22 := hu 22 _ HS2.s22
  have e28 := hu 28 _ HS3.s28
  have e29 := hu 29 _ HS3.s29
  have e35 := hu 35 _ HS4.s35
  have e36 := hu 36 _ HS4.s36
  have e37 := hu 37 _ HS4.s37
  clear hu HS HS2 HS3 HS4
  conv => arg 2; whnf
  unfold frame
  simp only [e5, e8, e10, e13, e14, e15, e16, e17, e19, e20, e21, e22, e28, e29, e35, e36, e37]
  have k1 : Keep [] w (((w.alloc (.cells #[.slice none 0 0] 65)).alloc (.cells #[.slice none 0 0] 66)).alloc (.cells #[.string (nameB (D.self % 5).toNat), .string ⟨#[]⟩, .slice none 0 0, .string ⟨#[]⟩, .int .u64 0, .int .u64 0, .func (.func 4) #[] #[.pointer (some ⟨w.heap.size, 0, none⟩)], .func (.func 7) #[] #[.pointer (some ⟨w.heap.size + 1, 0, none⟩)], .nilFunc, .nilFunc, .nilFunc, .pointer none] 83)) := (((Keep.refl [] w).alloc _).alloc _).alloc _
  have bS : Blk (((w.alloc (.cells #[.slice none 0 0] 65)).alloc (.cells #[.slice none 0 0] 66)).alloc (.cells #[.string (nameB (D.self % 5).toNat), .string ⟨#[]⟩, .slice none 0 0, .string ⟨#[]⟩, .int .u64 0, .int .u64 0, .func (.func 4) #[] #[.pointer (some ⟨w.heap.size, 0, none⟩)], .func (.func 7) #[] #[.pointer (some ⟨w.heap.size + 1, 0, none⟩)], .nilFunc, .nilFunc, .nilFunc, .pointer none] 83)) w.heap.size 65 [.slice none 0 0] := ((Blk.new w _ 65).alloc _).alloc _
  have bD : Blk (((w.alloc (.cells #[.slice none 0 0] 65)).alloc (.cells #[.slice none 0 0] 66)).alloc (.cells #[.string (nameB (D.self % 5).toNat), .string ⟨#[]⟩, .slice none 0 0, .string ⟨#[]⟩, .int .u64 0, .int .u64 0, .func (.func 4) #[] #[.pointer (some ⟨w.heap.size, 0, none⟩)], .func (.func 7) #[] #[.pointer (some ⟨w.heap.size + 1, 0, none⟩)], .nilFunc, .nilFunc, .nilFunc, .pointer none] 83)) (w.heap.size + 1) 66 [.slice none 0 0] := (Blk.new' _ _ _ _ (by simp)).alloc _
  have bC := Blk.new' ((w.alloc (.cells #[.slice none 0 0] 65)).alloc (.cells #[.slice none 0 0] 66)) #[.string (nameB (D.self % 5).toNat), .string ⟨#[]⟩, .slice none 0 0, .string ⟨#[]⟩, .int .u64 0, .int .u64 0, .func (.func 4) #[] #[.pointer (some ⟨w.heap.size, 0, none⟩)], .func (.func 7) #[] #[.pointer (some ⟨w.heap.size + 1, 0, none⟩)], .nilFunc, .nilFunc, .nilFunc, .pointer none] 83 (w.heap.size + 1 + 1) (by simp)
  go_upto_region 70 with fail
  generalize (((w.alloc (.cells #[.slice none 0 0] 65)).alloc (.cells #[.slice none 0 0] 66)).alloc (.cells #[.string (nameB (D.self % 5).toNat), .string ⟨#[]⟩, .slice none 0 0, .string ⟨#[]⟩, .int .u64 0, .int .u64 0, .func (.func 4) #[] #[.pointer (some ⟨w.heap.size, 0, none⟩)], .func (.func 7) #[] #[.pointer (some ⟨w.heap.size + 1, 0, none⟩)], .nilFunc, .nilFunc, .nilFunc, .pointer none] 83)) = w1 at k1 bS bD bC ⊢
  obtain ⟨SB, hSB⟩ : ∃ x, x = w.heap.size := ⟨_, rfl⟩
  obtain ⟨DB, hDB⟩ : ∃ x, x = w.heap.size + 1 := ⟨_, rfl⟩
  obtain ⟨CFb, hCF⟩ : ∃ x, x = w.heap.size + 1 + 1 := ⟨_, rfl⟩
  rw [← hCF, ← hDB, ← hSB] at bC ⊢
  rw [← hDB] at bD
  rw [← hSB] at bS
  have i1 : w.heap.size ≤ SB := by omega
  have i2 : w.heap.size ≤ DB := by omega
  have i3 : w.heap.size ≤ CFb := by omega
  clear hCF hDB hSB
  obtain ⟨sn, hsn⟩ : ∃ s, s = nameB (D.self % 5).toNat := ⟨_, rfl⟩
  rw [← hsn] at bC ⊢
  have HSN := unhalt hsn
  clear hsn
  have bH := k1.blk HB.hCH (by simp)
  have d0 : w1.cell? ⟨J.CH, 0, none⟩ = some (.string ⟨#[76]⟩) := bH.cell 0
  have d1 : w1.cell? ⟨J.CH, 1, none⟩ = some (.int .u64 1) := bH.cell 1
  have d2 : w1.cell? ⟨J.CH, 2, none⟩ = some (.int .u64 1) := bH.cell 2
  have lCH := bH.lt
  have k2 : Keep [] w1 (w1.alloc (.cells #[.string ⟨#[118, 50]⟩, .slice I.nao I.nn I.nc, .string ⟨#[76]⟩, .int .u64 1, .int .u64 1, .slice none 0 0, .map none] 86)) := (Keep.refl [] w1).alloc _
  have bN := Blk.new' w1 #[.string ⟨#[118, 50]⟩, .slice I.nao I.nn I.nc, .string ⟨#[76]⟩, .int .u64 1, .int .u64 1, .slice none 0 0, .map none] 86 w1.heap.size rfl
  go_upto_region 71 with fail
  generalize w1.alloc (.cells #[.string ⟨#[118, 50]⟩, .slice I.nao I.nn I.nc, .string ⟨#[76]⟩, .int .u64 1, .int .u64 1, .slice none 0 0, .map none] 86) = w2 at k2 bN ⊢
  obtain ⟨NB, hNB⟩ : ∃ x, x = w1.heap.size := ⟨_, rfl⟩
  rw [← hNB] at bN ⊢
  have i4 : w1.heap.size ≤ NB := by omega
  clear hNB d0 d1 d2
  have SK : ∀ w', Keep [] w2 w' → w'.cell? ⟨CFb, 0, none⟩ = some (.string sn) ∧ w'.cell? ⟨CFb, 1, none⟩ = some (.string ⟨#[]⟩) ∧ w'.cell? ⟨CFb, 2, none⟩ = some (.slice none 0 0) ∧ w'.cell? ⟨CFb, 3, none⟩ = some (.string ⟨#[]⟩) ∧ w'.cell? ⟨CFb, 4, none⟩ = some (.int .u64 0) ∧ w'.cell? ⟨CFb, 5, none⟩ = some (.int .u64 0) ∧ w'.cell? ⟨CFb, 6, none⟩ = some (.func (.func 4) #[] #[.pointer (some ⟨SB, 0, none⟩)]) ∧ w'.cell? ⟨CFb, 7, none⟩ = some (.func (.func 7) #[] #[.pointer (some ⟨DB, 0, none⟩)]) ∧ w'.cell? ⟨CFb, 8, none⟩ = some (.nilFunc) ∧ w'.cell? ⟨CFb, 9, none⟩ = some (.nilFunc) ∧ w'.cell? ⟨CFb, 10, none⟩ = some (.nilFunc) ∧ w'.cell? ⟨CFb, 11, none⟩ = some (.pointer none) ∧ w'.cell? ⟨J.CH, 0, none⟩ = some (.string ⟨#[76]⟩) ∧ w'.cell? ⟨J.CH, 1, none⟩ = some (.int .u64 1) ∧ w'.cell? ⟨J.CH, 2, none⟩ = some (.int .u64 1) := fun w' k => by
    have hc := (k2.trans k (by simp)).blk bC (by simp)
    have hh := (k2.trans k (by simp)).blk bH (by simp)
    exact ⟨hc.cell 0, hc.cell 1, hc.cell 2, hc.cell 3, hc.cell 4, hc.cell 5, hc.cell 6, hc.cell 7, hc.cell 8, hc.cell 9, hc.cell 10, hc.cell 11, hh.cell 0, hh.cell 1, hh.cell 2⟩
  have S0 := SK w2.drew (Keep.refl [] w2).drew
  go_cut [46] from 299 to 313 (fun e wx => ∃ E YB XB ec, e = .pointer (some ⟨E, 0, none⟩) ∧ Keep [] w2 wx ∧ Blk wx E 109 ec ∧ wx.heap[YB]? = some (.map #[{ key := chV, val := .agg #[.map (some J.RB), .map (some XB)], born := 0 }] 1) ∧ w2.heap.size ≤ E ∧ EcOk ec sn SB DB J2.KM YB J3.HR D.held.length NB I.on I.oc I.oao)
  case first =>
    have hsecond : (((w2.alloc (.map #[] 0)).alloc (.map #[] 0)).drew).heap[w2.heap.size + 1]? = some (.map #[] 0) := by
      have h := heap_alloc_new (w2.alloc (.map #[] 0)) (.map #[] 0)
      have hs : (w2.alloc (.map #[] 0)).heap.size = w2.heap.size + 1 := by simp
      rw [hs] at h
      exact h
    have mk91 := run_mkmap 91
    have mk88 := run_mkmap 88
    obtain ⟨w3a, hina, ma, pa⟩ := ins91 (((w2.alloc (.map #[] 0)).alloc (.map #[] 0)).drew) (w2.heap.size) (.agg #[.map (some J.RB), .map (some (w2.heap.size + 1))]) ((Below.heap_alloc _ _ _ (by simp)).trans (heap_alloc_new w2 _))
    unfold chV at hina
    have qa : Keep [] w2 w3a := ((((Keep.refl [] w2).alloc _).alloc _).drew).trans pa (fun x hx hlt => by simp at hx; omega)
    have SKa : ∀ w', Keep [] w3a w' → w'.cell? ⟨CFb, 0, none⟩ = some (.string sn) ∧ w'.cell? ⟨CFb, 1, none⟩ = some (.string ⟨#[]⟩) ∧ w'.cell? ⟨CFb, 2, none⟩ = some (.slice none 0 0) ∧ w'.cell? ⟨CFb, 3, none⟩ = some (.string ⟨#[]⟩) ∧ w'.cell? ⟨CFb, 4, none⟩ = some (.int .u64 0) ∧ w'.cell? ⟨CFb, 5, none⟩ = some (.int .u64 0) ∧ w'.cell? ⟨CFb, 6, none⟩ = some (.func (.func 4) #[] #[.pointer (some ⟨SB, 0, none⟩)]) ∧ w'.cell? ⟨CFb, 7, none⟩ = some (.func (.func 7) #[] #[.pointer (some ⟨DB, 0, none⟩)]) ∧ w'.cell? ⟨CFb, 8, none⟩ = some (.nilFunc) ∧ w'.cell? ⟨CFb, 9, none⟩ = some (.nilFunc) ∧ w'.cell? ⟨CFb, 10, none⟩ = some (.nilFunc) ∧ w'.cell? ⟨CFb, 11, none⟩ = some (.pointer none) ∧ w'.cell? ⟨J.CH, 0, none⟩ = some (.string ⟨#[76]⟩) ∧ w'.cell? ⟨J.CH, 1, none⟩ = some (.int .u64 1) ∧ w'.cell? ⟨J.CH, 2, none⟩ = some (.int .u64 1) := fun w' k => SK w' (qa.trans k (by simp))
    have Sa := SKa w3a (Keep.refl [] _)
    obtain ⟨w3b, hinb, mb, pb⟩ := ins91 (((w2.alloc (.map #[] 0)).alloc (.map #[] 0)).drew) (w2.heap.size + 1) (.agg #[.map (some J.RB), .map (some (w2.heap.size))]) (hsecond)
    unfold chV at hinb
    have qb : Keep [] w2 w3b := ((((Keep.refl [] w2).alloc _).alloc _).drew).trans pb (fun x hx hlt => by simp at hx; omega)
    have SKb : ∀ w', Keep [] w3b w' → w'.cell? ⟨CFb, 0, none⟩ = some (.string sn) ∧ w'.cell? ⟨CFb, 1, none⟩ = some (.string ⟨#[]⟩) ∧ w'.cell? ⟨CFb, 2, none⟩ = some (.slice none 0 0) ∧ w'.cell? ⟨CFb, 3, none⟩ = some (.string ⟨#[]⟩) ∧ w'.cell? ⟨CFb, 4, none⟩ = some (.int .u64 0) ∧ w'.cell? ⟨CFb, 5, none⟩ = some (.int .u64 0) ∧ w'.cell? ⟨CFb, 6, none⟩ = some (.func (.func 4) #[] #[.pointer (some ⟨SB, 0, none⟩)]) ∧ w'.cell? ⟨CFb, 7, none⟩ = some (.func (.func 7) #[] #[.pointer (some ⟨DB, 0, none⟩)]) ∧ w'.cell? ⟨CFb, 8, none⟩ = some (.nilFunc) ∧ w'.cell? ⟨CFb, 9, none⟩ = some (.nilFunc) ∧ w'.cell? ⟨CFb, 10, none⟩ = some (.nilFunc) ∧ w'.cell? ⟨CFb, 11, none⟩ = some (.pointer none) ∧ w'.cell? ⟨J.CH, 0, none⟩ = some (.string ⟨#[76]⟩) ∧ w'.cell? ⟨J.CH, 1, none⟩ = some (.int .u64 1) ∧ w'.cell? ⟨J.CH, 2, none⟩ = some (.int .u64 1) := fun w' k => SK w' (qb.trans k (by simp))
    have Sb := SKb w3b (Keep.refl [] _)
    have HMA := unhalt (⟨ma, qa⟩ : _ ∧ _)
    have HMB := unhalt (⟨mb, qb⟩ : _ ∧ _)
    clear ma mb pa pb qa qb hsecond
    go_region_held3 (fun w' => w'.cell? ⟨CFb, 0, none⟩ = some (.string sn) ∧ w'.cell? ⟨CFb, 1, none⟩ = some (.string ⟨#[]⟩) ∧ w'.cell? ⟨CFb, 2, none⟩ = some (.slice none 0 0) ∧ w'.cell? ⟨CFb, 3, none⟩ = some (.string ⟨#[]⟩) ∧ w'.cell? ⟨CFb, 4, none⟩ = some (.int .u64 0) ∧ w'.cell? ⟨CFb, 5, none⟩ = some (.int .u64 0) ∧ w'.cell? ⟨CFb, 6, none⟩ = some (.func (.func 4) #[] #[.pointer (some ⟨SB, 0, none⟩)]) ∧ w'.cell? ⟨CFb, 7, none⟩ = some (.func (.func 7) #[] #[.pointer (some ⟨DB, 0, none⟩)]) ∧ w'.cell? ⟨CFb, 8, none⟩ = some (.nilFunc) ∧ w'.cell? ⟨CFb, 9, none⟩ = some (.nilFunc) ∧ w'.cell? ⟨CFb, 10, none⟩ = some (.nilFunc) ∧ w'.cell? ⟨CFb, 11, none⟩ = some (.pointer none) ∧ w'.cell? ⟨J.CH, 0, none⟩ = some (.string ⟨#[76]⟩) ∧ w'.cell? ⟨J.CH, 1, none⟩ = some (.int .u64 1) ∧ w'.cell? ⟨J.CH, 2, none⟩ = some (.int .u64 1)) (first | assumption | exact SK _ ((Keep.refl [] w2).alloc _).drew | exact SK _ (((Keep.refl [] w2).alloc _).alloc _).drew | exact SKa _ ((Keep.refl [] w3a).alloc _) | exact SKb _ ((Keep.refl [] w3b).alloc _)) (fail)
    · clear SK SKa SKb S0 Sa Sb mk91 mk88 hina hinb
      have hfin := fun (ec : Array Value) (he : EcOk ec.toList sn SB DB J2.KM w2.heap.size J3.HR D.held.length NB I.on I.oc I.oao) => (⟨_, _, _, _, rfl, HMA.out.2.alloc _, Blk.new w3a ec 109, (Below.heap_alloc _ _ _ (Array.getElem?_eq_some_iff.1 HMA.out.1).1).trans HMA.out.1, HMA.out.2.size, he⟩ : ∃ E YB XB ec', Value.pointer (some ⟨w3a.heap.size, 0, none⟩) = .pointer (some ⟨E, 0, none⟩) ∧ Keep [] w2 (w3a.alloc (.cells ec 109)) ∧ Blk (w3a.alloc (.cells ec 109)) E 109 ec' ∧ (w3a.alloc (.cells ec 109)).heap[YB]? = some (.map #[{ key := chV, val := .agg #[.map (some J.RB), .map (some XB)], born := 0 }] 1) ∧ w2.heap.size ≤ E ∧ EcOk ec' sn SB DB J2.KM YB J3.HR D.held.length NB I.on I.oc I.oao)
      have HFI := unhalt hfin
      clear hfin
      go_wp2
      go_meet
      case rel => exact HFI.out _ ⟨rfl, rfl, rfl, rfl, rfl, rfl, rfl, rfl, rfl, rfl, rfl⟩
    · clear SK SKa SKb S0 Sa Sb mk91 mk88 hina hinb
      have hfin := fun (ec : Array Value) (he : EcOk ec.toList sn SB DB J2.KM (w2.heap.size + 1) J3.HR D.held.length NB I.on I.oc I.oao) => (⟨_, _, _, _, rfl, HMB.out.2.alloc _, Blk.new w3b ec 109, (Below.heap_alloc _ _ _ (Array.getElem?_eq_some_iff.1 HMB.out.1).1).trans HMB.out.1, HMB.out.2.size, he⟩ : ∃ E YB XB ec', Value.pointer (some ⟨w3b.heap.size, 0, none⟩) = .pointer (some ⟨E, 0, none⟩) ∧ Keep [] w2 (w3b.alloc (.cells ec 109)) ∧ Blk (w3b.alloc (.cells ec 109)) E 109 ec' ∧ (w3b.alloc (.cells ec 109)).heap[YB]? = some (.map #[{ key := chV, val := .agg #[.map (some J.RB), .map (some XB)], born := 0 }] 1) ∧ w2.heap.size ≤ E ∧ EcOk ec' sn SB DB J2.KM YB J3.HR D.held.length NB I.on I.oc I.oao)
      have HFI := unhalt hfin
      clear hfin
      go_wp2
      go_meet
      case rel => exact HFI.out _ ⟨rfl, rfl, rfl, rfl, rfl, rfl, rfl, rfl, rfl, rfl, rfl⟩
  case rest =>
    obtain ⟨E, YB, XB, ec, rfl, k3, bE, mY, i5, hec⟩ := hcut
    have kk := (k1.trans k2 (by simp)).trans k3 (by simp)
    rw [HSN.out] at hec
    have HX := fixin D H I J J2 J3 ⟨SB, DB, NB, E, YB, XB, ec⟩ wc (HF.keep kk) (HB.keep kk) (HC.keep kk) (HD.keep kk) bE (k3.blk bN (by simp)) (k3.blk (k2.blk bS (by simp)) (by simp)) (k3.blk (k2.blk bD (by simp)) (by simp)) mY hec
    have HFX := unhalt (fix_any _ wc HX)
    clear SK S0
    go_upto_region 72 with fail
    go_cut [47] from 314 to 316 (fun g wx => ((∃ m ∈ namesOf (pickN D.N 4), (mkFD D I J J2 J3 ⟨SB, DB, NB, E, YB, XB, ec⟩).bad m) ∧ g = .bool false ∧ Keep [] wc wx) ∨ ((∀ m ∈ namesOf (pickN D.N 4), ¬ (mkFD D I J J2 J3 ⟨SB, DB, NB, E, YB, XB, ec⟩).bad m) ∧ g = .bool true ∧ FixOut (mkFD D I J J2 J3 ⟨SB, DB, NB, E, YB, XB, ec⟩) wc wx))
    case first =>
      go_wp2_with (go_at_call 8; refine halt ?_)
      refine unhalt ?_
      refine HFX.out.mono ?_
      rintro e w5 (⟨hb, rfl, h5⟩ | ⟨hb, rfl, h5⟩)
      · have HH := unhalt (⟨hb, h5⟩ : _ ∧ _)
        clear hb h5 HFX
        go_wp2
        go_meet
        case rel => exact .inl ⟨HH.out.1, rfl, HH.out.2⟩
      · have HH := unhalt (⟨hb, h5⟩ : _ ∧ _)
        clear hb h5 HFX
        go_wp2
        go_meet
        case rel => exact .inr ⟨HH.out.1, rfl, HH.out.2⟩
    case rest =>
      rename_i hK
      have hsn := HSN.out
      subst hsn
      rcases hcut with ⟨hb, rfl, h5⟩ | ⟨hb, rfl, h5⟩
      · have k5 := kk.trans h5 (by simp)
        have hd := HD.keep k5
        refine hK _ _ (HN0.out ⟨SB, DB, NB, E, YB, XB, ec⟩ _ _ ⟨⟨rfl, rfl, rfl, rfl, rfl, rfl, rfl, rfl, rfl, rfl, rfl⟩, ⟨rfl, rfl, rfl⟩, ⟨rfl, rfl⟩, ⟨rfl, rfl, rfl⟩, ⟨rfl, rfl, rfl, rfl, rfl⟩⟩ ⟨HF.keep k5, (HB.keep k5).hSQ, (HC.keep k5).hKC, hd.hHF, hd.hHQ⟩ HD.is ?_ hb)
        exact ⟨h5.blk (k3.blk bN (by simp)) (by simp), h5.blk (k3.blk (k2.blk bS (by simp)) (by simp)) (by simp), h5.blk (k3.blk (k2.blk bD (by simp)) (by simp)) (by simp), h5.blk bE (by simp), hec.e42, hd.hHR⟩
      · have hk : Keep (mkFD D I J J2 J3 ⟨SB, DB, NB, E, YB, XB, ec⟩).ids _ _ := h5.choose_spec.choose_spec.choose_spec.choose_spec.choose_spec.choose_spec.choose_spec.choose_spec.2.2.2.2.2.2.2.2.2.2
        have U := UpT.of D I J J2 J3 ⟨SB, DB, NB, E, YB, XB, ec⟩ HX hk
        have k0' : Keep [] D.w0 wc := (HF.k0.trans kk (by simp)).trans hk (fun x hx hlt => by
          have h1 := HF.k0.size
          have h2 := k1.size
          have h3 := k2.size
          have h4 := HD.hbs
          simp [FixD.ids, mkFD] at hx
          omega)
        have fa := (HF.keep kk).up U k0'
        have ub : ∀ {g e cs}, e ≠ 86 → e ≠ 109 → e ≠ 65 → e ≠ 66 → e ≠ 64 → Blk w g e cs → Blk wc g e cs := fun h1 h2 h3 h4 h5 hb => U.blk _ _ _ h1 h2 h3 h4 h5 (kk.blk hb (by simp))
        exact hK _ _ (HN1.out ⟨SB, DB, NB, E, YB, XB, ec⟩ _ _ _ ⟨⟨rfl, rfl, rfl, rfl, rfl, rfl, rfl, rfl, rfl, rfl, rfl⟩, ⟨rfl, rfl, rfl⟩, ⟨rfl, rfl⟩, ⟨rfl, rfl, rfl⟩, ⟨rfl, rfl, rfl, rfl, rfl⟩⟩ ⟨fa, ub (by decide) (by decide) (by decide) (by decide) (by decide) HB.hSQ, ub (by decide) (by decide) (by decide) (by decide) (by decide) HC.hKC, ub (by decide) (by decide) (by decide) (by decide) (by decide) HD.hHF, ub (by decide) (by decide) (by decide) (by decide) (by decide) HD.hHQ⟩ HD.is h5 (List.getElem?_eq_some_iff.1 hec.e42).1 hb)
end Go.Proofs.Ybulkdfze
