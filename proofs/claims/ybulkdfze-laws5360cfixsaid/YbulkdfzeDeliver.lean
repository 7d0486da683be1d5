import Derived.Test.YbulkdfzeBetween
namespace Go.Proofs.Ybulkdfze
open Go Go.RowKit Go.Lib Go.Shelf

/-- Of the blocks below base only those in S may have changed. -/
structure KB (base : Nat) (S : List Nat) (w w' : World) : Prop where
  os : w'.os = w.os
  tape : w'.tape = w.tape
  output : w'.output = w.output
  size : w.heap.size ≤ w'.heap.size
  block : ∀ k, k < w.heap.size → k < base → k ∉ S → w'.heap[k]? = w.heap[k]?
section
variable {base : Nat} {S : List Nat} {w w1 w2 : World}
theorem KB.refl (base : Nat) (S : List Nat) (w : World) : KB base S w w := ⟨rfl, rfl, rfl, Nat.le_refl _, fun _ _ _ _ => rfl⟩
theorem KB.trans (h1 : KB base S w w1) (h2 : KB base S w1 w2) : KB base S w w2 :=
  ⟨h2.os.trans h1.os, h2.tape.trans h1.tape, h2.output.trans h1.output, Nat.le_trans h1.size h2.size, fun k hk hb hne => by
    have hs := h1.size
    rw [h2.block k (by omega) hb hne, h1.block k hk hb hne]⟩
theorem KB.of_keep {T : List Nat} (h : Keep T w w1) (hT : ∀ k, k ∈ T → k < base → k ∈ S) : KB base S w w1 := ⟨h.os, h.tape, h.output, h.size, fun k hk hb hne => h.block k hk (fun e => hne (hT k e hb))⟩
theorem KB.of_ks {D : Nat} {T : TypeId} (h : KS base D T w w1) (hD : D ∈ S) : KB base S w w1 := ⟨h.os, h.tape, h.output, h.size, fun k hk hb hne => h.block k hk (fun e => hne (e ▸ hD)) (.inl hb)⟩
theorem KB.keep (h : KB base S w w1) (hb : w.heap.size ≤ base) : Keep S w w1 := ⟨h.os, h.tape, h.output, h.size, fun k hk hne => h.block k hk (by omega) hne⟩
theorem KB.blk (h : KB base S w w1) {g : Nat} {e : TypeId} {cs : List Value} (hb : Blk w g e cs) (hlt : g < base) (hg : g ∉ S) : Blk w1 g e cs := hb.of (h.block g hb.lt hlt hg)
theorem KB.heap (h : KB base S w w1) {g : Nat} {o : Obj} (hb : w.heap[g]? = some o) (hlt : g < base) (hg : g ∉ S) : w1.heap[g]? = some o := (h.block g (Array.getElem?_eq_some_iff.1 hb).1 hlt hg).trans hb
theorem KB.rd (h : KB base S w w1) {ao : Option Addr} {xs : List Value} (hr : Rd w ao xs) (hg : ∀ x, ao = some x → x.block < base ∧ x.block ∉ S) : Rd w1 ao xs :=
  hr.of fun x hx hlt => h.block _ hlt (hg x hx).1 (hg x hx).2
end

/-- The copier's buffer. -/
def Buf (base : Nat) (w : World) (bo : Option Nat) (v : Value) : Prop :=
  (bo = none ∧ v = .slice none 0 0) ∨ ∃ g L cs, bo = some g ∧ base ≤ g ∧ v = .slice (some ⟨g, 0, none⟩) L 6 ∧ L ≤ 6 ∧ Blk w g 5 cs ∧ cs.length = 6

theorem Blk.ne {w : World} {g g' : Nat} {e e' : TypeId} {cs cs' : List Value} (h : Blk w g e cs) (h' : Blk w g' e' cs') (he : e ≠ e') : g ≠ g' := by
  rintro rfl
  have := h.symm.trans h'
  cases this
  exact he rfl

theorem dels_keep {base DB : Nat} {bo : Option Nat} {w w1 : World} {L : List (ByteArray × ByteArray × Int × List Value)} (h : Dels base w DB bo L) (k : Keep [] w w1) : Dels base w1 DB bo L := by
  obtain ⟨v, xs, h1, h2, h3⟩ := h
  exact ⟨v, xs, k.blk h1 (by simp), owns_keep h2 k (by simp), DEl.of (fun g cs hb hn => ⟨k.blk hb (by simp), hn⟩) h3⟩

/-- The copier's Copy, with what was delivered before. -/
theorem copy_any (E DB base : Nat) (bo : Option Nat) (bv : Value) (ec : List Value) (L : List (ByteArray × ByteArray × Int × List Value)) (ad : Addr) (x y : Int) (w : World)
    (HD : Dels base w DB bo L) (hb : base ≤ w.heap.size) (hEb : E < base) (_hDb : DB < base) (hE : Blk w E 109 ec) (e49 : ec[49]? = some (.int .i64 0)) (e50 : ec[50]? = some bv) (hbuf : Buf base w bo bv)
    (hz : Rd w (some ad) [.int .u8 x, .int .u8 y]) (had : ad.block ≠ E) :
    Calls Yba.prog 20 #[.pointer (some ⟨E, 49, none⟩), .slice (some ad) 2 2] w fun e w' => ∃ g L' bs, e = .returned (.slice (some ⟨g, L', none⟩) 2 2) ∧ Rd w' (some ⟨g, L', none⟩) [.int .u8 x, .int .u8 y] ∧
      Blk w' E 109 (ec.set 50 (.slice (some ⟨g, 0, none⟩) (L' + 2) 6)) ∧ Buf base w' (some g) (.slice (some ⟨g, 0, none⟩) (L' + 2) 6) ∧ Blk w' g 5 bs ∧ Dels base w' DB (some g) L ∧ KB base [E, DB] w w' := by
  have main : Calls Yba.prog 20 #[.pointer (some ⟨E, 49, none⟩), .slice (some ad) 2 2] w (Copied w E 49 109 ec (.int .u8 x) (.int .u8 y)) := by
    rcases hbuf with ⟨_, rfl⟩ | ⟨g, Lb, cs, _, hg, rfl, hL, hB, hl⟩
    · exact copy_new E 49 109 ec ad none 0 0 x y w hE e49 e50 (by omega) (by omega) hz had
    · by_cases h2 : Lb + 2 ≤ 6
      · exact copy_room E 49 109 ec ad g Lb cs x y w hE e49 e50 h2 hB hl hz (by omega)
      · exact copy_new E 49 109 ec ad _ Lb 6 x y w hE e49 e50 (by omega) (by omega) hz had
  refine main.mono ?_
  rintro e w' ⟨g, L', bs, rfl, hL, hB, hl, h0, h1, hE', hcase⟩
  obtain ⟨dv, xs, d1, d2, d3⟩ := HD
  have hgb : base ≤ g ∧ ∃ T, Keep T w w' ∧ (∀ k ∈ T, k < base → k = E) ∧ (∀ g' e' cs', Blk w g' e' cs' → e' ≠ 109 → (e' = 5 → some g' ≠ bo) → Blk w' g' e' cs' ∧ (e' = 5 → some g' ≠ some g)) := by
    rcases hcase with ⟨hg, hk⟩ | ⟨L0, h50, hk⟩
    · refine ⟨by omega, [E], hk, by simp, fun g' e' cs' hb' he' hn => ⟨hk.blk hb' (by simpa using hb'.ne hE he'), fun _ e => ?_⟩⟩
      cases e
      have := hb'.lt
      omega
    · rw [e50] at h50
      cases h50
      rcases hbuf with ⟨_, h⟩ | ⟨g2, Lb, cs, rfl, hg, h, hL2, hB2, hl2⟩
      · cases h
      · cases h
        refine ⟨hg, [E, g], hk, by simp; omega, fun g' e' cs' hb' he' hn => ?_⟩
        have hgg : g' ≠ g := by
          by_cases h5 : e' = 5
          · exact fun e => hn h5 (by rw [e])
          · exact hb'.ne hB2 h5
        exact ⟨hk.blk hb' (by simp [hgg, hb'.ne hE he']), fun _ e => hgg (by cases e; rfl)⟩
  obtain ⟨hgb, T, hk, hT, hup⟩ := hgb
  refine ⟨g, L', bs, rfl, Rd.of_blk hB L' _ ?_, hE', .inr ⟨g, L' + 2, bs, rfl, hgb, rfl, hL, hB, hl⟩, hB, ⟨dv, xs, ?_, ?_, ?_⟩, KB.of_keep hk (fun k hk hb => by simp [hT k hk hb])⟩
  · intro j u hj
    match j, hj with
    | 0, hj => simp at hj; subst hj; exact h0
    | 1, hj => simp at hj; subst hj; exact h1
  · exact (hup _ _ _ d1 (by decide) (fun h => absurd h (by decide))).1
  · refine ⟨d2.1, orR d2.2 fun ⟨g', cap, cur, h1, h2, h3, h4⟩ => ⟨g', cap, cur, h1, h2, ?_, h4⟩⟩
    have hb' : Blk w g' 74 cur.toList := by unfold Blk; simpa using h3
    simpa [Blk] using (hup _ _ _ hb' (by decide) (fun h => absurd h (by decide))).1
  · exact DEl.of (fun g' cs hb' hn => ⟨(hup _ _ _ hb' (by decide) (fun _ => hn)).1, (hup _ _ _ hb' (by decide) (fun _ => hn)).2 rfl⟩) d3

set_option maxRecDepth 20000 in
set_option maxHeartbeats 1000000 in
/-- '(*Endpoint).deliverReceived'. -/
theorem dr_any (E DB base : Nat) (bo : Option Nat) (bv : Value) (ec : List Value) (L : List (ByteArray × ByteArray × Int × List Value)) (ad : Addr) (x y seq : Int) (sender view : ByteArray) (w : World)
    (HD : Dels base w DB bo L) (hb : base ≤ w.heap.size) (hEb : E < base) (hDb : DB < base) (hE : Blk w E 109 ec) (e7 : ec[7]? = some (.func (.func 7) #[] #[.pointer (some ⟨DB, 0, none⟩)])) (e12 : ec[12]? = some (.string view))
    (e49 : ec[49]? = some (.int .i64 0)) (e50 : ec[50]? = some bv) (hbuf : Buf base w bo bv) (hL : L.length ≤ 2000)
    (hz : Rd w (some ad) [.int .u8 x, .int .u8 y]) (had : ad.block ≠ E) :
    Calls Yba.prog 16 #[.pointer (some ⟨E, 0, none⟩), .string sender, .int .u64 seq, .slice (some ad) 2 2] w fun e w' => e = .returned (.tuple #[]) ∧
      ∃ bo' bv', Blk w' E 109 (ec.set 50 bv') ∧ Buf base w' bo' bv' ∧ Dels base w' DB bo' (L ++ [(view, sender, seq, [.int .u8 x, .int .u8 y])]) ∧ KB base [E, DB] w w' := by
  have hED : E ≠ DB := by obtain ⟨v, xs, h1, _⟩ := HD; exact hE.ne h1 (by decide)
  have S0 : w.drew.cell? ⟨E, 7, none⟩ = some (.func (.func 7) #[] #[.pointer (some ⟨DB, 0, none⟩)]) ∧ w.drew.cell? ⟨E, 12, none⟩ = some (.string view) := ⟨(hE.drew.cell 7).trans e7, (hE.drew.cell 12).trans e12⟩
  have kd := (Keep.refl [] w).drew
  have HCP := unhalt ((copy_any E DB base bo bv ec L ad x y w.drew (dels_keep HD kd) hb hEb hDb hE.drew e49 e50 hbuf hz had).mono
    (R' := fun e w' => ∃ g L' bs, e = .returned (.slice (some ⟨g, L', none⟩) 2 2) ∧ Hid (Rd w' (some ⟨g, L', none⟩) [.int .u8 x, .int .u8 y] ∧
      Blk w' E 109 (ec.set 50 (.slice (some ⟨g, 0, none⟩) (L' + 2) 6)) ∧ Buf base w' (some g) (.slice (some ⟨g, 0, none⟩) (L' + 2) 6) ∧ Blk w' g 5 bs ∧ Dels base w' DB (some g) L ∧ KB base [E, DB] w w') ∧ w'.cell? ⟨E, 7, none⟩ = some (.func (.func 7) #[] #[.pointer (some ⟨DB, 0, none⟩)]) ∧ w'.cell? ⟨E, 12, none⟩ = some (.string view)) (by
    rintro e w' ⟨g, L', bs, rfl, h1, h2, h3⟩
    refine ⟨g, L', bs, rfl, ⟨h1, h2, h3.1, h3.2.1, h3.2.2.1, (KB.of_keep kd (by simp)).trans h3.2.2.2⟩, ?_, ?_⟩
    · rw [h2.cell 7, List.getElem?_set_ne (by decide)]; exact e7
    · rw [h2.cell 12, List.getElem?_set_ne (by decide)]; exact e12))
  have HDL := unhalt (fun (w1 : World) (g L' : Nat) (bs : List Value) (h : Rd w1 (some ⟨g, L', none⟩) [.int .u8 x, .int .u8 y] ∧
      Blk w1 E 109 (ec.set 50 (.slice (some ⟨g, 0, none⟩) (L' + 2) 6)) ∧ Buf base w1 (some g) (.slice (some ⟨g, 0, none⟩) (L' + 2) 6) ∧ Blk w1 g 5 bs ∧ Dels base w1 DB (some g) L ∧ KB base [E, DB] w w1) =>
    (del_any DB base (some g) L ⟨g, L', none⟩ 2 2 [.int .u8 x, .int .u8 y] view sender seq w1 h.2.2.2.2.1 (Nat.le_trans hb h.2.2.2.2.2.size) hDb (by intro g' e; cases e; exact h.2.2.2.1.lt) h.1 rfl (by omega) hL (by simp [Value.oneCell'])).mono
    (R' := fun e w' => e = .returned (.tuple #[]) ∧ Hid (∃ bo' bv', Blk w' E 109 (ec.set 50 bv') ∧ Buf base w' bo' bv' ∧ Dels base w' DB bo' (L ++ [(view, sender, seq, [.int .u8 x, .int .u8 y])]) ∧ KB base [E, DB] w w') ∧ w'.cell? ⟨E, 7, none⟩ = some (.func (.func 7) #[] #[.pointer (some ⟨DB, 0, none⟩)]) ∧ w'.cell? ⟨E, 12, none⟩ = some (.string view)) (by
      rintro e w' ⟨rfl, hd, hks⟩
      obtain ⟨r1, r2, r3, r4, r5, r6⟩ := h
      have hE' := hks.blk r2 hED (.inl hEb)
      refine ⟨rfl, ⟨some g, _, hE', ?_, hd, r6.trans (KB.of_ks hks (by simp))⟩, ?_, ?_⟩
      · rcases r3 with ⟨h, _⟩ | ⟨g2, Lb, cs, h1, hg, h, hL2, hB2, hl2⟩
        · cases h
        · cases h1
          obtain ⟨v, xs, d1, _⟩ := r5
          exact .inr ⟨g, Lb, cs, rfl, hg, h, hL2, hks.blk hB2 (hB2.ne d1 (by decide)) (.inr (by decide)), hl2⟩
      · rw [hE'.cell 7, List.getElem?_set_ne (by decide)]; exact e7
      · rw [hE'.cell 12, List.getElem?_set_ne (by decide)]; exact e12))
  go_enter Yba.func16, Yba.ntmps16
  go_wp2
  go_region_held3 (fun w' => w'.cell? ⟨E, 7, none⟩ = some (.func (.func 7) #[] #[.pointer (some ⟨DB, 0, none⟩)]) ∧ w'.cell? ⟨E, 12, none⟩ = some (.string view)) (first | assumption) (first | (go_at_call 20; refine HCP.out.mono ?_; rintro e w1 ⟨g, L', bs, rfl, h1, hS1⟩) | (go_at_call 7; refine (HDL.out _ g L' bs h1.out).mono ?_; rintro e w3 ⟨rfl, hfin, hS3⟩))
  clear HCP HDL
  go_wp2
  exact bodyPost_end (v := .tuple #[]) (by simp [results, Yba.results16, go_sem]) rfl ⟨rfl, hfin.out⟩
end Go.Proofs.Ybulkdfze
