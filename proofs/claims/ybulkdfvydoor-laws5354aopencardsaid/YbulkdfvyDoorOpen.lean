import Derived.Test.YbulkdfvyDoorRows
import Derived.Test.YbulkdfvyDoorBlocks
import Derived.Deep.RegionHeld3
import Derived.Deep.DeepMust
import Derived.Deep.QuietTactic
import Derived.BigQuiet
namespace Go.Proofs.YbulkdfvyDoor
open Go Go.RowKit
theorem info5 : (Ybad.prog.info? 5).map (fun i => (i.zero, i.size, i.bytes)) = some (some (.int .u8 0), 1, 1) := by kernel_rfl


/-- What the stand-in has written down: how often it was called, and copies of what it was handed; the copies lie from block B on. -/
def Logged (B : Nat) (w' : World) (A : Nat) (front fail : Bool) (k : Int) (nx cx dx : List Value) : Prop :=
  ∃ g1 c1 g2 c2 g3 c3, Blk w' A 25 [.bool front, .bool fail, .int .u8 k, .int .i64 1, .slice (some ⟨g1, 0, none⟩) nx.length c1, .slice (some ⟨g2, 0, none⟩) cx.length c2, .slice (some ⟨g3, 0, none⟩) dx.length c3] ∧
    Rd w' (some ⟨g1, 0, none⟩) nx ∧ Rd w' (some ⟨g2, 0, none⟩) cx ∧ Rd w' (some ⟨g3, 0, none⟩) dx ∧ B ≤ g1 ∧ B ≤ g2 ∧ B ≤ g3

theorem Logged.kept {B : Nat} {w w' : World} {A : Nat} {front fail : Bool} {k : Int} {nx cx dx : List Value} {S : List Nat} (h : Logged B w A front fail k nx cx dx) (hk : Keep S w w') (hA : A ∉ S) (hS : ∀ x ∈ S, x < B) : Logged B w' A front fail k nx cx dx := by
  obtain ⟨g1, c1, g2, c2, g3, c3, h0, h1, h2, h3, b1, b2, b3⟩ := h
  have hn : ∀ g, B ≤ g → ∀ x : Addr, some (⟨g, 0, none⟩ : Addr) = some x → x.block ∉ S := by
    intro g hg x hx hm
    cases hx
    have := hS g hm
    omega
  exact ⟨g1, c1, g2, c2, g3, c3, hk.blk h0 hA, hk.rd h1 (hn g1 b1), hk.rd h2 (hn g2 b2), hk.rd h3 (hn g3 b3), b1, b2, b3⟩

theorem splice_next (cz : List Int) (f : Int → Value) (fx : List Value) (st j : Nat) (z : Int) (h : cz[st + j]? = some z) :
    splice (((cz.drop st).take j).map f ++ fx.drop j) (0 + j) [f z] = ((cz.drop st).take (j + 1)).map f ++ fx.drop (j + 1) := by
  have hlt : st + j < cz.length := (List.getElem?_eq_some_iff.1 h).1
  have hl : (((cz.drop st).take j).map f).length = j := by simp; omega
  have e1 : (cz.drop st).take (j + 1) = (cz.drop st).take j ++ [z] := by
    rw [List.take_add_one, List.getElem?_drop, h]; rfl
  rw [e1]
  unfold splice
  rw [Nat.zero_add, List.take_append_of_le_length (by omega), List.take_of_length_le (by omega), List.drop_append, hl]
  have e2 : (((cz.drop st).take j).map f).drop (j + [f z].length) = [] := List.drop_eq_nil_of_le (by omega)
  rw [e2]
  simp [List.drop_drop]

/-- What the stand-in's Open leaves. -/
def OpenOut (w : World) (A F n st : Nat) (front fail : Bool) (k : Int) (nx dx fx : List Value) (cz : List Int) (e : Ending) (w' : World) : Prop :=
  Logged w.heap.size w' A front fail k nx (cz.map (Value.int .u8)) dx ∧ Keep [A, F] w w' ∧ ((fail = true ∧ ∃ p, e = .returned (.tuple #[.slice none 0 0, .iface 39 p])) ∨
    (fail = false ∧ e = .returned (.tuple #[.slice (some ⟨F, 0, none⟩) n n, .nilIface]) ∧ Blk w' F 5 (((cz.drop st).take n).map (fun z => Value.int .u8 (bits .xor .u8 z k)) ++ fx.drop n)))

set_option maxHeartbeats 400000 in
theorem open_any (A F S so : Nat) (front fail : Bool) (k : Int) (n : Nat) (no ad : Option Addr) (nl nc cl cc dl dc : Nat) (nx dx fx : List Value) (cz : List Int) (w : World)
    (hA : Blk w A 25 [.bool front, .bool fail, .int .u8 k, .int .i64 0, .slice none 0 0, .slice none 0 0, .slice none 0 0])
    (hF : Blk w F 5 fx) (hFn : n ≤ fx.length)
    (hn : Rd w no nx) (hc : Rd w (some ⟨S, so, none⟩) (cz.map (Value.int .u8))) (hd : Rd w ad dx) (ln : nx.length = nl) (lc : cz.length = cl) (ld : dx.length = dl)
    (on : ∀ u ∈ nx, u.oneCell' = true) (od : ∀ u ∈ dx, u.oneCell' = true)
    (bn : nl ≤ 100000) (bc : cl ≤ 100000) (bd : dl ≤ 100000)
    (sn : ∀ x, no = some x → x.block ≠ A) (sc : S ≠ A) (sd : ∀ x, ad = some x → x.block ≠ A) (sF : S ≠ F) (sAF : A ≠ F) (st : Nat) (hst : Hid ((front = true ∧ st = 12) ∨ (front = false ∧ st = 0))) (hcl1 : n + 16 + st ≤ cl) (hcl2 : cl ≤ n + 16 + st) :
    Calls Ybad.prog 23 #[.pointer (some ⟨A, 0, none⟩), .slice (some ⟨F, 0, none⟩) 0 n, .slice no nl nc, .slice (some ⟨S, so, none⟩) cl cc, .slice ad dl dc] w (OpenOut w A F n st front fail k nx dx fx cz) := by
  obtain ⟨i0, hi, hz0, hz1, hz2⟩ := info_parts info5
  have a3 := hA.cell 3
  have f3 := hA.free 3
  have lA := hA.lt
  simp at a3
  go_enter Ybad.func23, Ybad.ntmps23
  go_wp2_with (at_builtin; refine halt ?_)
  refine unhalt ?_
  refine wpList_app_clone _ rfl (.tmp 22) (.tmp 23) 22 rfl 5 i0 (.int .u8 0) Ybad.underlying22 hi hz0 hz1 rfl w.heap.size rfl ?_ no nl nc rfl nx ?_ ln on ?_ ?_ ?_
  · exact Blk.new' _ _ _ _ (by simp)
  · exact (((Keep.refl [A] w).setCell _ _ (by simp)).alloc _).rd hn (by simpa using sn)
  · rw [hz2]; omega
  · unfold maxLen; omega
  intro g1 c1 w1 hg1 hc1 hB1 hgr1 hlt1
  have hA1 : Blk w1 A 25 [.bool front, .bool fail, .int .u8 k, .int .i64 1, .slice none 0 0, .slice none 0 0, .slice none 0 0] := ((hA.set 3 _).alloc _).kept hgr1 (by simp)
  have k1 : Keep [A] w w1 := (((Keep.refl [A] w).setCell _ _ (by simp)).alloc _).grown hgr1 (by simp)
  have hs1 : w.heap.size < w1.heap.size := by have := hgr1.size; simp at this; omega
  have hgA : w.heap.size ≤ g1 := by rcases hg1 with h | h <;> simp [h]
  clear hgr1 hg1 a3 f3
  have a4 := hA1.cell 4
  have f4 := hA1.free 4
  simp at a4
  go_wp2_with (at_builtin; refine halt ?_)
  refine unhalt ?_
  refine wpList_app_clone _ rfl (.tmp 28) (.tmp 29) 22 rfl 5 i0 (.int .u8 0) Ybad.underlying22 hi hz0 hz1 rfl w1.heap.size rfl ?_ (some ⟨S, so, none⟩) cl cc rfl (cz.map (Value.int .u8)) ?_ (by simpa using lc) (ints_oneCell _ _) ?_ ?_ ?_
  · exact Blk.new' _ _ _ _ (by simp)
  · exact ((k1.setCell _ _ (by simp)).alloc _).rd hc (by simpa using sc)
  · rw [hz2]; omega
  · unfold maxLen; omega
  intro g2 c2 w2 hg2 hc2 hB2 hgr2 hlt2
  have hA2 : Blk w2 A 25 [.bool front, .bool fail, .int .u8 k, .int .i64 1, .slice (some ⟨g1, 0, none⟩) nl c1, .slice none 0 0, .slice none 0 0] := ((hA1.set 4 _).alloc _).kept hgr2 (by simp)
  have k2 : Keep [A] w w2 := ((k1.setCell _ _ (by simp)).alloc _).grown hgr2 (by simp)
  have k12 : Keep [A] w1 w2 := (((Keep.refl [A] w1).setCell _ _ (by simp)).alloc _).grown hgr2 (by simp)
  have hs2 : w1.heap.size < w2.heap.size := by have := hgr2.size; simp at this; omega
  have hgA2 : w.heap.size ≤ g2 := by rcases hg2 with h | h <;> simp [h] <;> omega
  clear hgr2 hg2 a4 f4 hA1
  have a5 := hA2.cell 5
  have f5 := hA2.free 5
  simp at a5
  go_wp2_with (at_builtin; refine halt ?_)
  refine unhalt ?_
  refine wpList_app_clone _ rfl (.tmp 34) (.tmp 35) 22 rfl 5 i0 (.int .u8 0) Ybad.underlying22 hi hz0 hz1 rfl w2.heap.size rfl ?_ ad dl dc rfl dx ?_ ld od ?_ ?_ ?_
  · exact Blk.new' _ _ _ _ (by simp)
  · exact ((k2.setCell _ _ (by simp)).alloc _).rd hd (by simpa using sd)
  · rw [hz2]; omega
  · unfold maxLen; omega
  intro g3 c3 w3 hg3 hc3 hB3 hgr3 hlt3
  have hA3 : Blk w3 A 25 [.bool front, .bool fail, .int .u8 k, .int .i64 1, .slice (some ⟨g1, 0, none⟩) nl c1, .slice (some ⟨g2, 0, none⟩) cl c2, .slice none 0 0] := ((hA2.set 5 _).alloc _).kept hgr3 (by simp)
  have k3 : Keep [A] w w3 := ((k2.setCell _ _ (by simp)).alloc _).grown hgr3 (by simp)
  have k23 : Keep [A] w2 w3 := (((Keep.refl [A] w2).setCell _ _ (by simp)).alloc _).grown hgr3 (by simp)
  have hs3 : w2.heap.size < w3.heap.size := by have := hgr3.size; simp at this; omega
  have hgA3 : w.heap.size ≤ g3 := by rcases hg3 with h | h <;> simp [h] <;> omega
  clear hgr3 hg3 a5 f5 hA2
  have a6 := hA3.cell 6
  have f6 := hA3.free 6
  have a1 := hA3.cell 1
  have a0 := hA3.cell 0
  simp at a6 a1 a0
  have kA : w.heap.size ≤ w3.heap.size := k3.size
  have hA4 : Blk (w3.setCell ⟨A, 6, none⟩ (.slice (some ⟨g3, 0, none⟩) dl c3)) A 25 [.bool front, .bool fail, .int .u8 k, .int .i64 1, .slice (some ⟨g1, 0, none⟩) nl c1, .slice (some ⟨g2, 0, none⟩) cl c2, .slice (some ⟨g3, 0, none⟩) dl c3] := hA3.set 6 _
  have k4 : Keep [A] w (w3.setCell ⟨A, 6, none⟩ (.slice (some ⟨g3, 0, none⟩) dl c3)) := k3.setCell _ _ (by simp)
  have L4 : Logged w.heap.size (w3.setCell ⟨A, 6, none⟩ (.slice (some ⟨g3, 0, none⟩) dl c3)) A front fail k nx (cz.map (Value.int .u8)) dx := by
    have k34 : Keep [A] w3 (w3.setCell ⟨A, 6, none⟩ (.slice (some ⟨g3, 0, none⟩) dl c3)) := (Keep.refl [A] w3).setCell _ _ (by simp)
    have k24 := k23.trans k34 (by simp)
    have k14 := k12.trans k24 (by simp)
    refine ⟨g1, c1, g2, c2, g3, c3, ?_, ?_, ?_, ?_, hgA, hgA2, hgA3⟩
    · rw [ln, ld, List.length_map, lc]; exact hA4
    · exact Rd.of_blk (k14.blk hB1 (by simp; omega)) 0 _ (by intro j u hj; rw [Nat.zero_add, List.getElem?_append_left (List.getElem?_eq_some_iff.1 hj).1]; exact hj)
    · exact Rd.of_blk (k24.blk hB2 (by simp; omega)) 0 _ (by intro j u hj; rw [Nat.zero_add, List.getElem?_append_left (List.getElem?_eq_some_iff.1 hj).1]; exact hj)
    · exact Rd.of_blk (k34.blk hB3 (by simp; omega)) 0 _ (by intro j u hj; rw [Nat.zero_add, List.getElem?_append_left (List.getElem?_eq_some_iff.1 hj).1]; exact hj)
  have hFl := hF.lt
  have hF4 : Blk (w3.setCell ⟨A, 6, none⟩ (.slice (some ⟨g3, 0, none⟩) dl c3)) F 5 fx := k4.blk hF (by simpa using Ne.symm sAF)
  clear hB1 hB2 hB3 k1 k2 k12 k23 k3 hn hd on od sn sd
  rcases hst.out with ⟨rfl, rfl⟩ | ⟨rfl, rfl⟩
  · by_cases hfail : fail = true
    · subst hfail
      go_wp2
      go_ret2
      exact ⟨(L4.kept ((Keep.refl [] _).alloc _) (by simp) (by simp)), (k4.alloc _).mono (by simp), .inl ⟨rfl, _, rfl⟩⟩
    obtain rfl : fail = false := by simpa using hfail
    go_wp2
    clear a0 a1 a6 f6 hA3
    generalize w3.setCell ⟨A, 6, none⟩ (.slice (some ⟨g3, 0, none⟩) dl c3) = w4 at hA4 k4 L4 hF4 ⊢
    go_loopw [1, 13] (fun d i wr => ∃ j : Nat, j ≤ n ∧ d = .slice (some ⟨F, 0, none⟩) j n ∧ i = .int .i64 (12 + j) ∧ Blk wr F 5 (((cz.drop 12).take j).map (fun z => Value.int .u8 (bits .xor .u8 z k)) ++ fx.drop j) ∧ Keep [F] w4 wr) (fun _ i _ => (12 + n : Nat) - (intOf i).toNat)
    case atStart => exact ⟨0, Nat.zero_le _, rfl, rfl, by simpa using hF4, Keep.refl _ _⟩
    case round =>
      obtain ⟨j, hj, rfl, rfl, hFr, kr⟩ := hrel
      by_cases hlt : j < n
      · obtain ⟨z, hz⟩ : ∃ z, cz[12 + j]? = some z := ⟨cz[12 + j]'(by omega), List.getElem?_eq_getElem (by omega)⟩
        have cS : wr.cell? ⟨S, so + (12 + (j : Int)).toNat, none⟩ = some (.int .u8 z) := by
          rw [show (12 + (j : Int)).toNat = 12 + j from by omega]
          have := (kr.rd (k4.rd hc (by simpa using sc)) (by simpa using sF)).2 _ rfl (12 + j) (.int .u8 z) (by rw [List.getElem?_map, hz]; rfl)
          simpa [Addr.add_lit] using this
        have cA : wr.cell? ⟨A, 2, none⟩ = some (.int .u8 k) := by
          have := (kr.blk hA4 (by simpa using sAF)).cell 2
          simpa using this
        have HZ : Hid (cz[12 + j]? = some z) := hz
        have hR1 : Rd (wr.alloc (.cells #[.int .u8 (bits .xor .u8 z k)] 5)) (some ⟨wr.heap.size, 0, none⟩) [.int .u8 (bits .xor .u8 z k)] := Rd.of_blk (Blk.new wr _ 5) 0 _ (by simp)
        have hF1 := hFr.alloc (.cells #[.int .u8 (bits .xor .u8 z k)] 5)
        have cS1 := ((Keep.refl [] wr).alloc (.cells #[.int .u8 (bits .xor .u8 z k)] 5)).cell cS (by simp)
        have cA1 := ((Keep.refl [] wr).alloc (.cells #[.int .u8 (bits .xor .u8 z k)] 5)).cell cA (by simp)
        have hfl : 0 + j + 1 ≤ (((cz.drop 12).take j).map (fun z => Value.int .u8 (bits .xor .u8 z k)) ++ fx.drop j).length := by simp; omega
        clear hz
        have hb1 : (0 : Int) ≤ 12 + (j : Int) := by omega
        have hb2 : 12 + (j : Int) < (cl : Int) := by omega
        go_wp2
        go_region_held3 (fun w' => w'.cell? ⟨S, so + (12 + (j : Int)).toNat, none⟩ = some (.int .u8 z) ∧ w'.cell? ⟨A, 2, none⟩ = some (.int .u8 k)) (go_keep) ((refine step_app_room _ (by rfl) (.tmp 62) (.tmp 72) 22 (by rfl) 5 i0 Ybad.underlying22 hi hz1 F 0 j n (by rfl) (some ⟨wr.heap.size, 0, none⟩) 1 1 (by rfl) _ [.int .u8 (bits .xor .u8 z k)] hF1 hR1 rfl (ints_oneCell .u8 [_]) (by omega) hfl ?_; intro w5 hF5 hg5 hs5; have q1 := hg5.cell (a := ⟨S, so + (12 + (j : Int)).toNat, none⟩) (by exact cS1) (by simp [sF]); have q2 := hg5.cell (a := ⟨A, 2, none⟩) (by exact cA1) (by simp [sAF])))
        have hF6 : Blk w5 F 5 (((cz.drop 12).take (j + 1)).map (fun z => Value.int .u8 (bits .xor .u8 z k)) ++ fx.drop (j + 1)) := hF5.cast (splice_next cz (fun z => Value.int .u8 (bits .xor .u8 z k)) fx 12 j z HZ.out)
        have k6 : Keep [F] w4 w5 := ((kr.alloc _).drew).grown hg5 (by simp)
        clear hF5 hg5 hF1 hR1 hs5
        go_wp2
        go_roundw
        case rel => exact ⟨j + 1, by omega, rfl, by go_num, hF6, k6⟩
        case measure => simp [intOf]; omega
      · go_wp2
        go_ret2
        obtain rfl : j = n := by omega
        exact ⟨L4.kept kr (by simpa using sAF) (by simpa using hFl), k4.mono (by simp) |>.trans kr (by simp), .inr ⟨rfl, rfl, hFr⟩⟩
  · by_cases hfail : fail = true
    · subst hfail
      go_wp2
      go_ret2
      exact ⟨(L4.kept ((Keep.refl [] _).alloc _) (by simp) (by simp)), (k4.alloc _).mono (by simp), .inl ⟨rfl, _, rfl⟩⟩
    obtain rfl : fail = false := by simpa using hfail
    go_wp2
    clear a0 a1 a6 f6 hA3
    generalize w3.setCell ⟨A, 6, none⟩ (.slice (some ⟨g3, 0, none⟩) dl c3) = w4 at hA4 k4 L4 hF4 ⊢
    go_loopw [1, 13] (fun d i wr => ∃ j : Nat, j ≤ n ∧ d = .slice (some ⟨F, 0, none⟩) j n ∧ i = .int .i64 (j) ∧ Blk wr F 5 (((cz.drop 0).take j).map (fun z => Value.int .u8 (bits .xor .u8 z k)) ++ fx.drop j) ∧ Keep [F] w4 wr) (fun _ i _ => (0 + n : Nat) - (intOf i).toNat)
    case atStart => exact ⟨0, Nat.zero_le _, rfl, rfl, by simpa using hF4, Keep.refl _ _⟩
    case round =>
      obtain ⟨j, hj, rfl, rfl, hFr, kr⟩ := hrel
      by_cases hlt : j < n
      · obtain ⟨z, hz⟩ : ∃ z, cz[0 + j]? = some z := ⟨cz[0 + j]'(by omega), List.getElem?_eq_getElem (by omega)⟩
        have cS : wr.cell? ⟨S, so + j, none⟩ = some (.int .u8 z) := by
          rw [show j = 0 + j from by omega]
          have := (kr.rd (k4.rd hc (by simpa using sc)) (by simpa using sF)).2 _ rfl (0 + j) (.int .u8 z) (by rw [List.getElem?_map, hz]; rfl)
          simpa [Addr.add_lit] using this
        have cA : wr.cell? ⟨A, 2, none⟩ = some (.int .u8 k) := by
          have := (kr.blk hA4 (by simpa using sAF)).cell 2
          simpa using this
        have HZ : Hid (cz[0 + j]? = some z) := hz
        have hR1 : Rd (wr.alloc (.cells #[.int .u8 (bits .xor .u8 z k)] 5)) (some ⟨wr.heap.size, 0, none⟩) [.int .u8 (bits .xor .u8 z k)] := Rd.of_blk (Blk.new wr _ 5) 0 _ (by simp)
        have hF1 := hFr.alloc (.cells #[.int .u8 (bits .xor .u8 z k)] 5)
        have cS1 := ((Keep.refl [] wr).alloc (.cells #[.int .u8 (bits .xor .u8 z k)] 5)).cell cS (by simp)
        have cA1 := ((Keep.refl [] wr).alloc (.cells #[.int .u8 (bits .xor .u8 z k)] 5)).cell cA (by simp)
        have hfl : 0 + j + 1 ≤ (((cz.drop 0).take j).map (fun z => Value.int .u8 (bits .xor .u8 z k)) ++ fx.drop j).length := by simp; omega
        clear hz
        have hb1 : (0 : Int) ≤ (j : Int) := by omega
        have hb2 : (j : Int) < (cl : Int) := by omega
        go_wp2
        go_region_held3 (fun w' => w'.cell? ⟨S, so + j, none⟩ = some (.int .u8 z) ∧ w'.cell? ⟨A, 2, none⟩ = some (.int .u8 k)) (go_keep) ((refine step_app_room _ (by rfl) (.tmp 62) (.tmp 72) 22 (by rfl) 5 i0 Ybad.underlying22 hi hz1 F 0 j n (by rfl) (some ⟨wr.heap.size, 0, none⟩) 1 1 (by rfl) _ [.int .u8 (bits .xor .u8 z k)] hF1 hR1 rfl (ints_oneCell .u8 [_]) (by omega) hfl ?_; intro w5 hF5 hg5 hs5; have q1 := hg5.cell (a := ⟨S, so + j, none⟩) (by exact cS1) (by simp [sF]); have q2 := hg5.cell (a := ⟨A, 2, none⟩) (by exact cA1) (by simp [sAF])))
        have hF6 : Blk w5 F 5 (((cz.drop 0).take (j + 1)).map (fun z => Value.int .u8 (bits .xor .u8 z k)) ++ fx.drop (j + 1)) := hF5.cast (splice_next cz (fun z => Value.int .u8 (bits .xor .u8 z k)) fx 0 j z HZ.out)
        have k6 : Keep [F] w4 w5 := ((kr.alloc _).drew).grown hg5 (by simp)
        clear hF5 hg5 hF1 hR1 hs5
        go_wp2
        go_roundw
        case rel => exact ⟨j + 1, by omega, rfl, by go_num, hF6, k6⟩
        case measure => simp [intOf]; omega
      · go_wp2
        go_ret2
        obtain rfl : j = n := by omega
        exact ⟨L4.kept kr (by simpa using sAF) (by simpa using hFl), k4.mono (by simp) |>.trans kr (by simp), .inr ⟨rfl, rfl, hFr⟩⟩
end Go.Proofs.YbulkdfvyDoor
