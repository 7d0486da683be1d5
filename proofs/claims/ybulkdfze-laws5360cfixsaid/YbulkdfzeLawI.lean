import Derived.Test.YbulkdfzeLawDI
namespace Go.Proofs.Ybulkdfze
open Go Go.RowKit Go.Lib Go.Shelf
theorem len_map (CB n : Nat) (cs : List (ByteArray × Int)) (w : World) (hM : Mp w CB (cutKvs cs)) (hn : cs.length = n) : (Builtin.len_ #[37] 3 #[.map (some CB)]).run Yba.prog w = .ok (.int .i64 (n : Int)) w := by
  have hM' : w.heap[CB]? = some (.map (ents 0 (cutKvs cs)).toArray (cutKvs cs).length) := hM
  have hg : (getObj CB).run Yba.prog w = .ok (.map (ents 0 (cutKvs cs)).toArray (cutKvs cs).length) w := by simp [getObj, Sem.run, hM']
  have hel : (ents 0 (cutKvs cs)).length = n := by rw [ents_len, ← hn]; simp [cutKvs]
  simp [Builtin.len_, run_underlying Yba.underlying37, hg, hel, goInt]

set_option maxRecDepth 1000000 in
set_option maxHeartbeats 8000000 in
theorem phaseI (D : LD) (_H : D.Ok) (I : LI) (J : LB) (J2 : LC) (J3 : LH) (X : LX) (TB : Nat) (tao : Option Addr) (tc CHb CVb CB : Nat) (cs : List (ByteArray × Int)) (a : Act) (w : World) (HS : SL D I J J2 J3 X true a) (HS2 : SG TB tao tc D a) (HS3 : SH D CHb CVb a) (HZ : FZ D I J J2 J3 w) (HH : FH D CHb CVb w)
    (hN6 : w.cell? ⟨X.NB, 6, none⟩ = some (.map (some CB))) (hM : Mp w CB (cutKvs cs)) (hlen : cs.length = (pickN D.ch 4).length) (hlook : ∀ j, j < 4 → lookI (nameB j) cs = if D.ch j = true then some (D.cv j) else none)
    (next : ∀ a' w', SL D I J J2 J3 X true a' → SG TB tao tc D a' → SH D CHb CVb a' → Keep [] w w' → Code.wp Yba.prog (C3 Yba.f3 39) (LQ D) a' w') : Code.wp Yba.prog (C3 Yba.f3 37) (LQ D) a w := by
  obtain ⟨u, hu, rfl⟩ := frame_of a HS.sa.hs HS.sa.hd
  have e5 := hu 5 _ HS.sa.s5
  have e8 := hu 8 _ HS.sa.s8
  have e10 := hu 10 _ HS.sa.s10
  have e13 := hu 13 _ HS.sa.s13
  have e14 := hu 14 _ HS.sa.s14
  have e15 := hu 15 _ HS.sa.s15
  have e16 := hu 16 _ HS.sa.s16
  have e17 := hu 17 _ HS.sa.s17
  have e19 := hu 19 _ HS.sa.s19
  have e20 := hu 20 _ HS.sb.s20
  have e21 := hu 21 _ HS.sb.s21
  have e22 := hu 22 _ HS.sb.s22
  have e28 := hu 28 _ HS.sc.s28
  have e29 := hu 29 _ HS.sc.s29
  have e35 := hu 35 _ HS.sd.s35
  have e36 := hu 36 _ HS.sd.s36
  have e37 := hu 37 _ HS.sd.s37
  have e42 := hu 42 _ HS.sx.s42
  have e43 := hu 43 _ HS.sx.s43
  have e45 := hu 45 _ HS.sx.s45
  have e46 := hu 46 _ HS.sx.s46
  have e47 := hu 47 _ HS.sx.s47
  have e51 := hu 51 _ HS2.s51
  have e52 := hu 52 _ HS2.s52
  have e55 := hu 55 _ HS3.s55
  have e56 := hu 56 _ HS3.s56
  have e57 := hu 57 _ HS3.s57
  have HN := unhalt next
  clear next HS2 HS3
  clear hu HS
  conv => arg 2; whnf
  unfold frame
  simp only [e5, e8, e10, e13, e14, e15, e16, e17, e19, e20, e21, e22, e28, e29, e35, e36, e37, e42, e43, e45, e46, e47, e51, e52, e55, e56, e57]
  have fa := HZ.fa
  have hem := eql_map CB
  have hz0 := @List.getElem?_cons_zero Field
  have hzs := @List.getElem?_cons_succ Field
  have lN : X.NB < w.heap.size := block_lt_of_cell hN6
  obtain ⟨n, hn⟩ : ∃ n, n = (pickN D.ch 4).length := ⟨_, rfl⟩
  have hn4 : n ≤ 4 := by rw [hn]; exact pickN_len _ _
  rw [← hn] at hlen ⊢
  have HNN := unhalt hn
  clear hn
  have hml := len_map CB n cs w hM hlen
  have HLK := unhalt hlook
  clear hlook
  have hLE := unhalt hlen
  clear hlen
  go_upto_if 513 with fail
  go_cut [] from 500 to 513 (fun wx => wx = w)
  case first =>
    go_wp2
    go_meet
    case rel => rfl
  case rest =>
    obtain rfl := hcut
    clear hem hz0 hzs hml
    go_upto_block 22 with fail
    go_cut [61, 62, 63] from 514 to 540 (fun _ _ _ wx => Keep [] wc wx)
    case first =>
      go_wp2_with fail
      go_loopw [61] (fun c wr => ∃ j : Nat, j ≤ 4 ∧ c = .int .i64 j ∧ Keep [] wc wr) (fun v _ => 4 - (intOf v).toNat)
      case atStart => exact ⟨0, by omega, rfl, Keep.refl _ _⟩
      case round =>
        obtain ⟨j, hj, rfl, kr⟩ := hrel
        by_cases hj4 : j < 4
        · have hj1 : (j : Int) < 4 := by omega
          have hj5 : (j : Int) < 5 := by omega
          have hj0 : (0 : Int) ≤ (j : Int) := by omega
          have hCHr := kr.blk HH.hCH (by simp)
          have hCVr := kr.blk HH.hCV (by simp)
          have cC := hCHr.cell j
          rw [bl_get _ j hj4] at cC
          have lC := hCHr.lt
          cases hc : D.ch j with
          | false =>
            rw [hc] at cC
            go_wp2
            exact ⟨⟨j + 1, by omega, by go_num, kr⟩, by simp [intOf]; omega⟩
          | true =>
            rw [hc] at cC
            have cV := hCVr.cell j
            rw [ul_get _ j hj4] at cV
            have lV := hCVr.lt
            have cn := (kr.blk fa.hNM (by simp)).cell j
            rw [names_get j (by omega)] at cn
            have ln := (kr.blk fa.hNM (by simp)).lt
            have c6 := kr.cell hN6 (by simp)
            have l6 : X.NB < wr.heap.size := block_lt_of_cell c6
            have hMr := kr.mp hM (by simp)
            have hlk : ∀ m, (Instr.lookup 37 (.map (some CB)) (.string (nameB j)) true).run Yba.prog (wr.drewN m) = .ok (.tuple #[.int .u64 (D.cv j), .bool true]) (wr.drewN m) := fun m => by
              have h := run_look Yba.prog (wr.drewN m) 37 9 31 CB (cutKvs cs) (nameB j) (.int .u64 0) true Yba.underlying37 Yba.underlying9 zeroV31 hMr
              rw [look_cut, HLK.out j hj4, if_pos hc] at h
              simpa using h
            clear hCHr hCVr hMr
            go_wp2
            go_quiet (fail)
            have kq := kr.drewN nq
            have cV2 : (wr.drewN nq).cell? ⟨CVb, j, none⟩ = some (.int .u64 (D.cv j)) := cV
            have lV2 : CVb < (wr.drewN nq).heap.size := lV
            clear hlk
            generalize wr.drewN nq = wq at kq cV2 lV2 ⊢
            go_wp2
            exact ⟨⟨j + 1, by omega, by go_num, kq⟩, by simp [intOf]; omega⟩
        · obtain rfl : j = 4 := by omega
          go_wp2
          go_meet
          case rel => exact kr
    case rest =>
      rename_i hK
      have hnn := HNN.out
      subst hnn
      exact hK _ _ (HN.out _ _ ⟨⟨rfl, rfl, rfl, rfl, rfl, rfl, rfl, rfl, rfl, rfl, rfl⟩, ⟨rfl, rfl, rfl⟩, ⟨rfl, rfl⟩, ⟨rfl, rfl, rfl⟩, ⟨rfl, rfl, rfl, rfl, rfl⟩⟩ ⟨rfl, rfl⟩ ⟨rfl, rfl, rfl⟩ hcut)
end Go.Proofs.Ybulkdfze
