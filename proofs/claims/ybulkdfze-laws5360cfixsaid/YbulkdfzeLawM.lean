import Derived.Test.YbulkdfzeLawK
import Derived.Test.YbulkdfzeLawL
import Derived.Test.YbulkdfzeLawA
import Derived.Test.YbulkdfzeLawB
import Derived.Test.YbulkdfzeLawC
import Derived.Test.YbulkdfzeLawDd
import Derived.Test.YbulkdfzeLawE
import Derived.Test.YbulkdfzeLawF
import Derived.Test.YbulkdfzeLawG
import Derived.Test.YbulkdfzeLawH
import Derived.Test.YbulkdfzeLawI
import Derived.Test.YbulkdfzeLawJ
namespace Go.Proofs.Ybulkdfze
open Go Go.RowKit Go.Lib Go.Shelf
/-- The law's body, behind its first test. -/
theorem law_body (D : LD) (H : D.Ok) (a : Act) (w : World) (RP KN : Nat) (k0 : Keep [] D.w0 w) (hRP : Blk w RP 26 D.rp) (hKN : Blk w KN 23 [.int .u8 (D.kN 0), .int .u8 (D.kN 1), .int .u8 (D.kN 2), .int .u8 (D.kN 3)])
    (hs : a.tmps.size = 796) (hd : a.defers = []) (h0 : a.tmps[0]? = some (.int .u8 D.om)) (h1 : a.tmps[1]? = some (.int .u8 D.nm)) (h3 : a.tmps[3]? = some (.int .u8 D.self)) (h5 : a.tmps[5]? = some (.slice D.hao D.held.length D.hcap))
    (h8 : a.tmps[8]? = some (.pointer (some ⟨RP, 0, none⟩))) (h10 : a.tmps[10]? = some (.pointer (some ⟨KN, 0, none⟩))) : Code.wp Yba.prog (C3 Yba.f3 2) (LQ D) a w := by
  refine phaseA D H a w RP KN k0 hRP hKN hs hd h0 h1 h3 h5 h8 h10 fun I a1 w1 sa fa => ?_
  refine phaseB D H I a1 w1 sa fa fun J a2 w2 sa sb fa fb => ?_
  refine phaseC D H I J a2 w2 sa sb fa fun J2 a3 w3 sa sb sc k3 fc => ?_
  have fa := fa.keep k3
  have fb := fb.keep k3
  refine phaseD D H I J J2 a3 w3 sa sb sc fa fun J3 a4 w4 sa sb sc sd k4 fd => ?_
  refine phaseE D H I J J2 J3 a4 w4 sa sb sc sd (fa.keep k4) (fb.keep k4) (fc.keep k4) fd (fun X a5 w5 sl fz hi no hb => phaseF0 D H I J J2 J3 X a5 w5 sl fz ((bad_iff D I J J2 J3 X).1 hb) hi no) (fun X a5 wp w5 sl fz hi out hec hb => ?_)
  have hok : okF D 4 = true := by
    cases h : okF D 4 with
    | true => rfl
    | false =>
      obtain ⟨m, hm, hbm⟩ := (bad_iff D I J J2 J3 X).2 h
      exact absurd hbm (hb m hm)
  refine phaseF1 D H I J J2 J3 X a5 w5 sl fz hok fun a6 sl => ?_
  obtain ⟨cs, CB, tn5, tc5, seen, bo, bv, junk, oN, oT, oM, oC, oS1, oS2, oSe, oE, oR, oD, _⟩ := out
  have te := trans_eq D I J J2 J3 X
  have tl : (mkFD D I J J2 J3 X).trans.length = D.T.length := by rw [te]; simp [namesOf]
  rw [tl] at oN
  have hT5 : Rd w5 tn5 (strs D.T) := by
    rw [te] at oT
    unfold namesOf at oT
    rw [List.map_map] at oT
    exact oT
  have clook := cut_look D H I J J2 J3 X cs oC
  have clen := cut_len D H I J J2 J3 X cs oC
  have hperm := sent_perm D H I J J2 J3 X cs oC seen oS1 oS2
  have oSe' : Sends 0 w5 X.SB (seen.flatMap fun i => match cs[i]? with | some p => fwdOf vone (nameB (D.self % 5).toNat) (namesOf D.T) (mkFD D I J J2 J3 X).lastv (mkFD D I J J2 J3 X).kc (mkFD D I J J2 J3 X).kn p.1 p.2 | none => []) := by
    rw [← te]; exact oSe
  refine phaseG D H I J J2 J3 X a6 w5 sl fz tn5 tc5 CB oN hT5 fun TB tao tc a7 w7 sl sg k7 fg => ?_
  refine phaseH D H I J J2 J3 X TB tao tc a7 w7 sl sg (fz.keep k7) fg fun CHb CVb a8 w8 sl sg sh k8 fh => ?_
  have k58 := k7.trans k8 (by simp)
  refine phaseI D H I J J2 J3 X TB tao tc CHb CVb CB cs a8 w8 sl sg sh (fz.keep k58) fh (k58.cell (oN.cell 6) (by simp)) (k58.mp oM (by simp)) clen clook fun a9 w9 sl sg sh k9 => ?_
  have k59 := k58.trans k9 (by simp)
  have fh9 : FH D CHb CVb w9 := ⟨k9.blk fh.hCH (by simp), k9.blk fh.hCV (by simp)⟩
  refine phaseJ D H I J J2 J3 X TB tao tc CHb CVb (fun s => (lookI s cs).getD 0) ((X.ec.set 50 bv).set 42 (.slice (some ⟨J3.HR, 0, none⟩) (stay (fun s => (lookI s cs).getD 0) J3.hs).length D.held.length)) junk bo a9 w9 sl sg sh (fz.keep k59) fh9 hi ?_ (k59.blk oE (by simp)) ?_ (k59.blk oR (by simp)) (dels_keep oD k59) fun a10 w10 sl sg sh k10 => ?_
  · intro j hj
    show (lookI (nameB j) cs).getD 0 = _
    rw [clook j hj]
    split
    · rfl
    · rename_i h
      rw [cv_zero D j (by simpa using h)]
      rfl
  · rw [List.getElem?_set_self (by simpa using hec)]
  have k510 := k59.trans k10 (by simp)
  have fg10 : FG D TB tao w10 := by
    have k := (k8.trans k9 (by simp)).trans k10 (by simp)
    exact ⟨k.blk fg.hTB (by simp), k.rd fg.hT (by simp)⟩
  have fh10 : FH D CHb CVb w10 := ⟨k10.blk fh9.hCH (by simp), k10.blk fh9.hCV (by simp)⟩
  refine phaseK D I J J2 J3 X TB tao tc CHb CVb a10 w10 sl sg sh (fz.keep k510) fg10 fh10 fun v a11 w11 sl s70 hw => ?_
  exact phaseL D I J J2 J3 X _ _ _ v a11 w11 sl s70 ((fz.keep k510).fa.k0.trans hw.1 (by simp)) hw.2 (sends_keep oSe' (k510.trans hw.1 (by simp))) hperm (want_nine D I J J2 J3 X) (want_len D I J J2 J3 X 4 (by omega))
end Go.Proofs.Ybulkdfze
