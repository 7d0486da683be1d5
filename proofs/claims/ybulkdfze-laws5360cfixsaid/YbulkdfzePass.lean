import Derived.Test.YbulkdfzeSend
namespace Go.Proofs.Ybulkdfze
open Go Go.RowKit Go.Lib Go.Shelf

/-- The bytes of a forward. -/
def fwd (view sender : ByteArray) (seq : Int) (zs : List Value) : List Value :=
  [.int .u8 view.size] ++ strCells view ++ [.int .u8 sender.size] ++ strCells sender ++ [.int .u8 seq] ++ [.int .u8 zs.length] ++ zs
theorem fwd_len (view sender : ByteArray) (seq : Int) (zs : List Value) : (fwd view sender seq zs).length = 1 + view.size + 1 + sender.size + 1 + 1 + zs.length := by
  simp [fwd, strCells_length]; omega

theorem Keep.of_below {w w1 : World} (h : Below w.heap.size w w1) : Keep [] w w1 := ⟨h.os, h.tape, h.output, h.size, fun k hk _ => h.block k hk⟩

theorem sends_keep {base SB : Nat} {w w1 : World} {L : List (ByteArray × List Value)} (h : Sends base w SB L) (k : Keep [] w w1) : Sends base w1 SB L := by
  obtain ⟨v, xs, h1, h2, h3⟩ := h
  exact ⟨v, xs, k.blk h1 (by simp), owns_keep h2 k (by simp), SEl.of (fun g cs hb => k.blk hb (by simp)) (fun g cs hb => k.blk hb (by simp)) h3⟩

set_option maxRecDepth 20000 in
set_option maxHeartbeats 1000000 in
/-- 'pass's function: one message is sent on. -/
theorem pass1_any (E SB base bE bS bV bM : Nat) (L : List (ByteArray × List Value)) (sender view member : ByteArray) (seq : Int) (ad : Addr) (zs : List Value) (w : World)
    (HS : Sends base w SB L) (hb : base ≤ w.heap.size) (hSB : SB < base) (hn : L.length ≤ 1000)
    (hbE : Blk w bE 87 [.pointer (some ⟨E, 0, none⟩)]) (hbS : Blk w bS 9 [.string sender]) (hbV : Blk w bV 9 [.string view]) (hbM : Blk w bM 9 [.string member])
    (hE : w.cell? ⟨E, 6, none⟩ = some (.func (.func 4) #[] #[.pointer (some ⟨SB, 0, none⟩)])) (hEb : E < base) (hES : E ≠ SB)
    (hs : sender.size < 10) (hvw : view.size < 10) (h0 : 0 ≤ seq) (h1 : seq < 128)
    (hz : Rd w (some ad) zs) (lz : zs.length = 2) (had : ad.block < w.heap.size) (h1c : ∀ u ∈ zs, u.oneCell' = true) :
    Calls Yba.prog 18 #[.int .u64 seq, .slice (some ad) 2 2, .pointer (some ⟨bE, 0, none⟩), .pointer (some ⟨bS, 0, none⟩), .pointer (some ⟨bV, 0, none⟩), .pointer (some ⟨bM, 0, none⟩)] w
      fun e w' => e = .returned (.tuple #[]) ∧ Sends base w' SB (L ++ [(member, fwd view sender seq zs)]) ∧ KS base SB 71 w w' := by
  have c1 := hbE.cell 0
  have c2 := hbS.cell 0
  have c3 := hbV.cell 0
  have c4 := hbM.cell 0
  simp only [List.getElem?_cons_zero] at c1 c2 c3 c4
  have hbES : bE ≠ SB ∧ bS ≠ SB ∧ bV ≠ SB ∧ bM ≠ SB := by
    obtain ⟨v, xs, h1, _⟩ := HS
    have ne : ∀ {g e cs}, Blk w g e cs → e ≠ 65 → g ≠ SB := fun hb he hg => by
      subst hg; have := hb.symm.trans h1; cases this; exact he rfl
    exact ⟨ne hbE (by decide), ne hbS (by decide), ne hbV (by decide), ne hbM (by decide)⟩
  have SK : ∀ w', Keep [] w w' → (w'.cell? ⟨bE, 0, none⟩ = some (.pointer (some ⟨E, 0, none⟩)) ∧ w'.cell? ⟨bS, 0, none⟩ = some (.string sender) ∧ w'.cell? ⟨bV, 0, none⟩ = some (.string view) ∧ w'.cell? ⟨bM, 0, none⟩ = some (.string member) ∧ w'.cell? ⟨E, 6, none⟩ = some (.func (.func 4) #[] #[.pointer (some ⟨SB, 0, none⟩)])) := fun w' k => ⟨k.cell c1 (by simp), k.cell c2 (by simp), k.cell c3 (by simp), k.cell c4 (by simp), k.cell hE (by simp)⟩
  have SKS : ∀ w', KS base SB 71 w w' → (w'.cell? ⟨bE, 0, none⟩ = some (.pointer (some ⟨E, 0, none⟩)) ∧ w'.cell? ⟨bS, 0, none⟩ = some (.string sender) ∧ w'.cell? ⟨bV, 0, none⟩ = some (.string view) ∧ w'.cell? ⟨bM, 0, none⟩ = some (.string member) ∧ w'.cell? ⟨E, 6, none⟩ = some (.func (.func 4) #[] #[.pointer (some ⟨SB, 0, none⟩)])) := fun w' k => by
    refine ⟨?_, ?_, ?_, ?_, k.cell hE hES hEb⟩
    · simpa using (k.blk hbE hbES.1 (.inr (by decide))).cell 0
    · simpa using (k.blk hbS hbES.2.1 (.inr (by decide))).cell 0
    · simpa using (k.blk hbV hbES.2.2.1 (.inr (by decide))).cell 0
    · simpa using (k.blk hbM hbES.2.2.2 (.inr (by decide))).cell 0
  have HENC := unhalt (fun (w1 : World) (k : Keep [] w w1) => (encode sender view seq ad 2 2 zs w1 (by omega) (by omega) h0 h1 (by omega) (k.rd hz (by simp)) lz (Nat.lt_of_lt_of_le had k.size) h1c).mono
    (R' := fun e w' => ∃ pb cap, e = .returned (.slice (some ⟨pb, 0, none⟩) (1 + view.size + 1 + sender.size + 1 + 1 + 2) cap) ∧ Rd w' (some ⟨pb, 0, none⟩) (fwd view sender seq zs) ∧ Keep [] w w' ∧ Keep [] w1 w' ∧ w'.cell? ⟨bE, 0, none⟩ = some (.pointer (some ⟨E, 0, none⟩)) ∧ w'.cell? ⟨bS, 0, none⟩ = some (.string sender) ∧ w'.cell? ⟨bV, 0, none⟩ = some (.string view) ∧ w'.cell? ⟨bM, 0, none⟩ = some (.string member) ∧ w'.cell? ⟨E, 6, none⟩ = some (.func (.func 4) #[] #[.pointer (some ⟨SB, 0, none⟩)])) (by
      rintro e w' ⟨v', rfl, ho, hb⟩
      have k1 := Keep.of_below hb
      have kk := k.trans k1 (by simp)
      obtain ⟨g, cap, rfl⟩ := ownsRow_succ (k := 1 + view.size + 1 + sender.size + 1 + 2) (by simpa using ho)
      refine ⟨g, cap, rfl, ?_, kk, k1, SK w' kk⟩
      have hc := ho.cells (g := g) rfl
      refine ⟨fun h => (by cases h), fun x hx j u hj => ?_⟩
      cases hx
      exact hc j u (by simpa [fwd, lz] using hj)))
  have HSEND := unhalt (fun (w2 : World) (pb tb pc tc : Nat) (k : Keep [] w w2) (hp : Rd w2 (some ⟨pb, 0, none⟩) (fwd view sender seq zs)) (ht : Rd w2 (some ⟨tb, 0, none⟩) [.string member]) =>
    (send_any SB base L ⟨pb, 0, none⟩ ⟨tb, 0, none⟩ pc tc (1 + view.size + 1 + sender.size + 1 + 1 + 2) (fwd view sender seq zs) member w2 (sends_keep HS k) (Nat.le_trans hb k.size) hSB hp (by rw [fwd_len, lz]) (by omega) hn (by
      intro u hu
      simp only [fwd, strCells, List.mem_append, List.mem_map, List.mem_singleton] at hu
      rcases hu with (((((rfl | ⟨x, _, rfl⟩) | rfl) | ⟨x, _, rfl⟩) | rfl) | rfl) | hu
      all_goals first | rfl | exact h1c u hu) ht).mono
    (R' := fun e w' => e = .returned (.tuple #[]) ∧ (Sends base w' SB (L ++ [(member, fwd view sender seq zs)]) ∧ KS base SB 71 w w') ∧ w'.cell? ⟨bE, 0, none⟩ = some (.pointer (some ⟨E, 0, none⟩)) ∧ w'.cell? ⟨bS, 0, none⟩ = some (.string sender) ∧ w'.cell? ⟨bV, 0, none⟩ = some (.string view) ∧ w'.cell? ⟨bM, 0, none⟩ = some (.string member) ∧ w'.cell? ⟨E, 6, none⟩ = some (.func (.func 4) #[] #[.pointer (some ⟨SB, 0, none⟩)])) (by
      rintro e w' ⟨rfl, h2, h3⟩
      have kk := (KS.of_keep k).trans h3
      exact ⟨rfl, ⟨h2, kk⟩, SKS w' kk⟩))
  have S0 : w.drew.cell? ⟨bE, 0, none⟩ = some (.pointer (some ⟨E, 0, none⟩)) ∧ w.drew.cell? ⟨bS, 0, none⟩ = some (.string sender) ∧ w.drew.cell? ⟨bV, 0, none⟩ = some (.string view) ∧ w.drew.cell? ⟨bM, 0, none⟩ = some (.string member) ∧ w.drew.cell? ⟨E, 6, none⟩ = some (.func (.func 4) #[] #[.pointer (some ⟨SB, 0, none⟩)]) := SK _ (Keep.refl [] w).drew
  have Sal : ∀ w1 o, Keep [] w w1 → ((w1.alloc o).cell? ⟨bE, 0, none⟩ = some (.pointer (some ⟨E, 0, none⟩)) ∧ (w1.alloc o).cell? ⟨bS, 0, none⟩ = some (.string sender) ∧ (w1.alloc o).cell? ⟨bV, 0, none⟩ = some (.string view) ∧ (w1.alloc o).cell? ⟨bM, 0, none⟩ = some (.string member) ∧ (w1.alloc o).cell? ⟨E, 6, none⟩ = some (.func (.func 4) #[] #[.pointer (some ⟨SB, 0, none⟩)])) := fun w1 o k => SK _ (k.alloc o)
  have hkd := (Keep.refl [] w).drew
  go_enter Yba.func18, Yba.ntmps18
  go_wp2
  go_region_held3 (fun w' => w'.cell? ⟨bE, 0, none⟩ = some (.pointer (some ⟨E, 0, none⟩)) ∧ w'.cell? ⟨bS, 0, none⟩ = some (.string sender) ∧ w'.cell? ⟨bV, 0, none⟩ = some (.string view) ∧ w'.cell? ⟨bM, 0, none⟩ = some (.string member) ∧ w'.cell? ⟨E, 6, none⟩ = some (.func (.func 4) #[] #[.pointer (some ⟨SB, 0, none⟩)])) (first | assumption | (exact SK _ ((Keep.refl [] w).alloc _).drew) | (refine Sal _ _ ?_; assumption)) (first | (go_at_call 19; refine (HENC.out _ (by first | exact hkd | exact ((Keep.refl [] w).alloc _).drew)).mono ?_; rintro e w1 ⟨pb, cap, rfl, hR, k1, k2, hS1⟩) | (go_at_call 4; refine (HSEND.out _ pb _ _ _ (by first | exact k1 | exact k1.alloc _) (by first | exact hR | exact hR.alloc _) (by first | exact Rd.of_blk (Blk.new _ _ _) 0 _ (by simp) | exact k2.rd (Rd.of_blk (Blk.new _ _ _) 0 _ (by simp)) (by simp))).mono ?_; rintro e w3 ⟨rfl, hfin, hS3⟩))
  all_goals
    have HH := unhalt hfin
    clear hfin HENC HSEND
    go_wp2
    exact bodyPost_end (v := .tuple #[]) (by simp [results, Yba.results18, go_sem]) rfl ⟨rfl, HH.out⟩
end Go.Proofs.Ybulkdfze
