import Derived.Test.YbulkdfxoFmtTime
import Derived.Deep.RegionHeld3
import Derived.Deep.DeepMust
import Derived.Deep.DeepFit
import Derived.Deep.QuietTactic
import Derived.BigQuiet
namespace Go.Proofs.YbulkdfxoFmt
open Go Go.RowKit Go.Extern.Stop Go.Stop Go.Extern

set_option maxHeartbeats 400000 in
theorem isTime_any (s : ByteArray) (w : World) (hs : s.size = 4) : Calls Ybaf.prog 9 #[.string s] w fun e w' => e = .returned (.bool (timeB s.data.toList)) ∧ w' = w := by
  have C1 := unhalt (fun w => minutes_any s w hs)
  have n1 : minOK s.data.toList = true → 0 ≤ numV (s.data.toList.take 2) * 60 + numV (s.data.toList.drop 2) ∧ numV (s.data.toList.take 2) * 60 + numV (s.data.toList.drop 2) < 1000000 := by
    intro h
    simp only [minOK, Bool.and_eq_true] at h
    have a := numV_small _ h.1 (by simp; omega)
    have b := numV_small _ h.2.1 (by simp; omega)
    omega
  clear hs
  unfold timeB
  generalize minOK s.data.toList = b at C1 n1 ⊢
  generalize numV (s.data.toList.take 2) * 60 + numV (s.data.toList.drop 2) = v at C1 n1 ⊢
  cases b
  · go_enter Ybaf.func9, Ybaf.ntmps9
    go_wp2_with (go_at_call 12; refine halt ?_)
    refine unhalt ?_
    refine (C1.out _).mono ?_
    rintro e w ⟨rfl, rfl⟩
    go_wp2
    go_ret
    exact ⟨rfl, rfl⟩
  · have m1 := n1 rfl
    clear n1
    go_enter Ybaf.func9, Ybaf.ntmps9
    go_wp2_with (go_at_call 12; refine halt ?_)
    refine unhalt ?_
    refine (C1.out _).mono ?_
    rintro e w ⟨rfl, rfl⟩
    go_wp2
    go_ret
    exact ⟨rfl, rfl⟩

/-- A Departure as a value. -/
def dep (a b c : ByteArray) : Value := .agg #[.string a, .string b, .string c]

set_option maxHeartbeats 400000 in
theorem read_long (F : Interp) (s : ByteArray) (w : World) (hF : F.answers w.tape) (hs : s.size ≠ 8) :
    Calls Ybaf.prog 5 #[.string s] w fun e w' => (∃ p, e = .returned (.tuple #[.agg #[.string ⟨#[]⟩, .string ⟨#[]⟩, .string ⟨#[]⟩], .iface 41 p])) ∧ Keep [] w w' := by
  have h8 : ((s.size : Int) != 8) = true := by rw [bne_iff_ne]; omega
  go_enter Ybaf.func5, Ybaf.ntmps5
  go_wp2_with (go_at_call 8; refine halt ?_)
  refine unhalt ?_
  refine (errorf_first F s (w.heap.size + 1) _ (by exact hF) (by simp)).mono ?_
  rintro e w1 ⟨⟨p, rfl⟩, k1⟩
  have hR := k1.blk ((Blk.new w #[.string ⟨#[]⟩, .string ⟨#[]⟩, .string ⟨#[]⟩] 23).alloc _) (by simp)
  have k2 : Keep [] w w1 := (((Keep.refl [] w).alloc _).alloc _).trans k1 (by simp)
  have c0 := hR.cell 0
  have c1 := hR.cell 1
  have c2 := hR.cell 2
  have f0 := hR.free 0
  have f1 := hR.free 1
  have f2 := hR.free 2
  simp at c0 c1 c2
  clear k1
  go_wp2
  exact bodyPost_ret (v := .tuple #[.agg #[.string ⟨#[]⟩, .string ⟨#[]⟩, .string ⟨#[]⟩], .iface 41 p]) (by simp [results, Ybaf.results5, go_sem, c0, c1, c2]) rfl ⟨⟨p, rfl⟩, ((k2.setCell _ _ (by simp)).setCell _ _ (by simp)).setCell _ _ (by simp)⟩

set_option maxHeartbeats 400000 in
theorem read_bad (F : Interp) (s : ByteArray) (w : World) (hF : F.answers w.tape) (hs : s.size = 8) (hl : capL (s.data.toList.take 4) = false) :
    Calls Ybaf.prog 5 #[.string s] w fun e w' => (∃ p, e = .returned (.tuple #[.agg #[.string ⟨#[]⟩, .string ⟨#[]⟩, .string ⟨#[]⟩], .iface 41 p])) ∧ Keep [] w w' := by
  have s1 : s.size ≤ 8 := by omega
  have s2 : 8 ≤ s.size := by omega
  have h8 : ((s.size : Int) != 8) = false := by rw [bne_eq_false_iff_eq]; omega
  have e1 : (s.extract 0 4).data.toList = s.data.toList.take 4 := by rw [Lib.extract_data]; simp
  have C1 := unhalt (fun w => letters_any (s.extract 0 4) w (by simp; omega))
  rw [e1, hl] at C1
  clear hs hl e1
  go_enter Ybaf.func5, Ybaf.ntmps5
  go_wp2_with (first | (go_at_call 8; refine halt ?_) | (go_at_call 7; refine halt ?_))
  refine unhalt ?_
  refine (C1.out _).mono ?_
  rintro e w1 ⟨rfl, rfl⟩
  go_wp2_with (go_at_call 8; refine halt ?_)
  refine unhalt ?_
  refine (errorf_first F s (w.heap.size + 1) _ (by exact hF) (by simp)).mono ?_
  rintro e w1 ⟨⟨p, rfl⟩, k1⟩
  have hR := k1.blk ((Blk.new w #[.string ⟨#[]⟩, .string ⟨#[]⟩, .string ⟨#[]⟩] 23).alloc _) (by simp)
  have k2 : Keep [] w w1 := (((Keep.refl [] w).alloc _).alloc _).trans k1 (by simp)
  have c0 := hR.cell 0
  have c1 := hR.cell 1
  have c2 := hR.cell 2
  have f0 := hR.free 0
  have f1 := hR.free 1
  have f2 := hR.free 2
  simp at c0 c1 c2
  clear k1
  go_wp2
  exact bodyPost_ret (v := .tuple #[.agg #[.string ⟨#[]⟩, .string ⟨#[]⟩, .string ⟨#[]⟩], .iface 41 p]) (by simp [results, Ybaf.results5, go_sem, c0, c1, c2]) rfl ⟨⟨p, rfl⟩, ((k2.setCell _ _ (by simp)).setCell _ _ (by simp)).setCell _ _ (by simp)⟩

/-- The error: nil where tb says so, else a new one. -/
def ErrIs (tb : Bool) (ev : Value) : Prop := bif tb then ev = .nilIface else ∃ p, ev = .iface 41 p

set_option maxHeartbeats 400000 in
theorem read_time (F : Interp) (s : ByteArray) (w : World) (hF : F.answers w.tape) (hs : s.size = 8) (hl : capL (s.data.toList.take 4) = true) (tb : Bool) (htb : timeB (s.data.toList.drop 4) = tb) :
    Calls Ybaf.prog 5 #[.string s] w fun e w' => (∃ ev, e = .returned (.tuple #[.agg #[.string s, .string (s.extract 0 4), .string (s.extract 4 s.size)], ev]) ∧ ErrIs tb ev) ∧ Keep [] w w' := by
  have s1 : s.size ≤ 8 := by omega
  have s2 : 8 ≤ s.size := by omega
  have h8 : ((s.size : Int) != 8) = false := by rw [bne_eq_false_iff_eq]; omega
  have e1 : (s.extract 0 4).data.toList = s.data.toList.take 4 := by rw [Lib.extract_data]; simp
  have e2 : (s.extract 4 s.size).data.toList = s.data.toList.drop 4 := Lib.extract_to_end s 4
  have C1 := unhalt (fun w => letters_any (s.extract 0 4) w (by simp; omega))
  rw [e1, hl] at C1
  have C2 := unhalt (fun w => isTime_any (s.extract 4 s.size) w (by simp; omega))
  rw [e2, htb] at C2
  clear hs hl e1 e2 htb
  have i1 : (4 : Int) ≤ (s.size : Int) := by omega
  go_enter Ybaf.func5, Ybaf.ntmps5
  go_wp2_with (first | (go_at_call 8; refine halt ?_) | (go_at_call 7; refine halt ?_))
  refine unhalt ?_
  refine (C1.out _).mono ?_
  rintro e w1 ⟨rfl, rfl⟩
  go_wp2
  go_region
  go_wp2_with (go_at_call 9; refine halt ?_)
  refine unhalt ?_
  refine (C2.out _).mono ?_
  clear C1 C2
  have hR0 : Blk ((w.alloc (.cells #[.string ⟨#[]⟩, .string ⟨#[]⟩, .string ⟨#[]⟩] 23)).alloc (.cells #[.string s, .string (s.extract 0 4), .string (s.extract 4 s.size)] 23)).drew w.heap.size 23 [.string ⟨#[]⟩, .string ⟨#[]⟩, .string ⟨#[]⟩] := ((Blk.new w _ 23).alloc _).drew
  have hP0 : Blk ((w.alloc (.cells #[.string ⟨#[]⟩, .string ⟨#[]⟩, .string ⟨#[]⟩] 23)).alloc (.cells #[.string s, .string (s.extract 0 4), .string (s.extract 4 s.size)] 23)).drew (w.heap.size + 1) 23 [.string s, .string (s.extract 0 4), .string (s.extract 4 s.size)] := (Blk.new' (w.alloc _) _ 23 _ (by simp)).drew
  have k0 : Keep [] w ((w.alloc (.cells #[.string ⟨#[]⟩, .string ⟨#[]⟩, .string ⟨#[]⟩] 23)).alloc (.cells #[.string s, .string (s.extract 0 4), .string (s.extract 4 s.size)] 23)).drew := (((Keep.refl [] w).alloc _).alloc _).drew
  have hF0 : F.answers ((w.alloc (.cells #[.string ⟨#[]⟩, .string ⟨#[]⟩, .string ⟨#[]⟩] 23)).alloc (.cells #[.string s, .string (s.extract 0 4), .string (s.extract 4 s.size)] 23)).drew.tape := hF
  generalize ((w.alloc (.cells #[.string ⟨#[]⟩, .string ⟨#[]⟩, .string ⟨#[]⟩] 23)).alloc (.cells #[.string s, .string (s.extract 0 4), .string (s.extract 4 s.size)] 23)).drew = w2 at hR0 hP0 k0 hF0
  rintro e w2 ⟨rfl, rfl⟩
  have lP := hP0.lt
  have c0 := hR0.cell 0
  have c1 := hR0.cell 1
  have c2 := hR0.cell 2
  have f0 := hR0.free 0
  have f1 := hR0.free 1
  have f2 := hR0.free 2
  have p0 := hP0.cell 0
  have p1 := hP0.cell 1
  have p2 := hP0.cell 2
  simp at c0 c1 c2 p0 p1 p2
  cases tb
  · have k23 : Keep [] w2 ((w2.alloc (.cells #[.iface 9 (.string (s.extract 4 s.size))] 20)).drew) := ((Keep.refl [] w2).alloc _).drew
    go_wp2
    go_region_held3 (fun w' => w'.cell? ⟨w.heap.size + 1, 0, none⟩ = some (.string s) ∧ w'.cell? ⟨w.heap.size + 1, 1, none⟩ = some (.string (s.extract 0 4)) ∧ w'.cell? ⟨w.heap.size + 1, 2, none⟩ = some (.string (s.extract 4 s.size))) (go_keep) ((go_at_call 8; refine (errorf_second F (s.extract 4 s.size) w2.heap.size ((w2.alloc (.cells #[.iface 9 (.string (s.extract 4 s.size))] 20)).drew) hF0 (by simp)).mono ?_; rintro e w3 ⟨⟨p, rfl⟩, k3⟩; have K3 := k23.trans k3 (by simp); have q0 := K3.cell p0 (by simp); have q1 := K3.cell p1 (by simp); have q2 := K3.cell p2 (by simp); have r0 := K3.cell c0 (by simp); have r1 := K3.cell c1 (by simp); have r2 := K3.cell c2 (by simp); have g0 := (K3.blk hR0 (by simp)).free 0; have g1 := (K3.blk hR0 (by simp)).free 1; have g2 := (K3.blk hR0 (by simp)).free 2))
    have k4 := k0.trans K3 (by simp)
    clear K3 k3
    go_wp2
    exact bodyPost_ret (v := .tuple #[.agg #[.string s, .string (s.extract 0 4), .string (s.extract 4 s.size)], .iface 41 p]) (by simp [results, Ybaf.results5, go_sem, r0, r1, r2]) rfl ⟨⟨_, rfl, p, rfl⟩, ((k4.setCell _ _ (by simp)).setCell _ _ (by simp)).setCell _ _ (by simp)⟩
  · go_wp2
    exact bodyPost_ret (v := .tuple #[.agg #[.string s, .string (s.extract 0 4), .string (s.extract 4 s.size)], .nilIface]) (by simp [results, Ybaf.results5, go_sem, c0, c1, c2]) rfl ⟨⟨_, rfl, rfl⟩, ((k0.setCell _ _ (by simp)).setCell _ _ (by simp)).setCell _ _ (by simp)⟩
end Go.Proofs.YbulkdfxoFmt
