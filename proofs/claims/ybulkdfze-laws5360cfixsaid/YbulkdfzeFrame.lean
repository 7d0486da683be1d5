import Derived.Test.YbulkdfzeStepCall
import Derived.Shelf.Abstract
namespace Go.Proofs.Ybulkdfze
open Go Go.RowKit Go.Lib Go.Shelf

/-- Block k is a row of elements of type T. -/
def ofType (w : World) (k : Nat) (T : TypeId) : Prop := ∃ cs fr, w.heap[k]? = some (.cells cs T fr)

/-- w' is w but for block SB, rows of elements T from base on, and new blocks. -/
structure KS (base SB : Nat) (T : TypeId) (w w' : World) : Prop where
  os : w'.os = w.os
  tape : w'.tape = w.tape
  output : w'.output = w.output
  size : w.heap.size ≤ w'.heap.size
  block : ∀ k, k < w.heap.size → k ≠ SB → (k < base ∨ ¬ ofType w k T) → w'.heap[k]? = w.heap[k]?

section
variable {base SB : Nat} {T : TypeId} {w w1 w2 : World}
theorem KS.refl (base SB : Nat) (T : TypeId) (w : World) : KS base SB T w w := ⟨rfl, rfl, rfl, Nat.le_refl _, fun _ _ _ _ => rfl⟩
theorem KS.trans (h1 : KS base SB T w w1) (h2 : KS base SB T w1 w2) : KS base SB T w w2 :=
  ⟨h2.os.trans h1.os, h2.tape.trans h1.tape, h2.output.trans h1.output, Nat.le_trans h1.size h2.size, fun k hk hne ho => by
    have e1 := h1.block k hk hne ho
    have hs := h1.size
    rw [h2.block k (by omega) hne (orR ho fun h ⟨cs, fr, e⟩ => h ⟨cs, fr, e1 ▸ e⟩), e1]⟩
theorem KS.of_keep (h : Keep [] w w1) : KS base SB T w w1 := ⟨h.os, h.tape, h.output, h.size, fun k hk _ _ => h.block k hk (by simp)⟩
theorem KS.of_keepS (h : Keep [SB] w w1) : KS base SB T w w1 := ⟨h.os, h.tape, h.output, h.size, fun k hk hne _ => h.block k hk (by simpa using hne)⟩
theorem KS.keep (h : KS base SB T w w1) (hb : w.heap.size ≤ base) : Keep [SB] w w1 := ⟨h.os, h.tape, h.output, h.size, fun k hk hne => h.block k hk (by simpa using hne) (.inl (by omega))⟩
theorem KS.blk (h : KS base SB T w w1) {g : Nat} {e : TypeId} {cs : List Value} (hb : Blk w g e cs) (hg : g ≠ SB) (he : g < base ∨ e ≠ T) : Blk w1 g e cs :=
  hb.of (h.block g hb.lt hg (orR he fun h ⟨cs', fr, e'⟩ => h (by have := hb.symm.trans e'; cases this; rfl)))
theorem KS.heap (h : KS base SB T w w1) {g : Nat} {o : Obj} (hb : w.heap[g]? = some o) (hg : g ≠ SB) (hlt : g < base) : w1.heap[g]? = some o :=
  (h.block g (Array.getElem?_eq_some_iff.1 hb).1 hg (.inl hlt)).trans hb
theorem KS.cell (h : KS base SB T w w1) {a : Addr} {v : Value} (hc : w.cell? a = some v) (hg : a.block ≠ SB) (hlt : a.block < base) : w1.cell? a = some v :=
  (World.cell?_of_block (w := w) (h.block _ (block_lt_of_cell hc) hg (.inl hlt))).trans hc
theorem KS.rd (h : KS base SB T w w1) {ao : Option Addr} {xs : List Value} (hr : Rd w ao xs) (hg : ∀ x, ao = some x → x.block ≠ SB ∧ x.block < base) : Rd w1 ao xs :=
  hr.of fun x hx hlt => h.block _ hlt (hg x hx).1 (.inl (hg x hx).2)
end

theorem owns_lt {w : World} {base : Nat} {e : TypeId} {k n : Nat} {v : Value} {xs : List Value} (h : w.ownsRow base e k v n xs) (g : Nat) (hg : v.ownBlock = some g) : base ≤ g ∧ ofType w g e := by
  rcases h.2 with ⟨rfl, _⟩ | ⟨g', cap, cur, rfl, hb, hgg, _⟩
  · simp [Value.ownBlock] at hg
  · simp [Value.ownBlock] at hg
    subst hg
    exact ⟨hb, _, _, hgg⟩
theorem owns_keep {S : List Nat} {w w1 : World} {base : Nat} {e : TypeId} {k n : Nat} {v : Value} {xs : List Value} (h : w.ownsRow base e k v n xs) (hk : Keep S w w1) (hS : ∀ g, base ≤ g → g ∉ S) : w1.ownsRow base e k v n xs :=
  ⟨h.1, orR h.2 fun ⟨g, cap, cur, h1, h2, h3, h4⟩ => ⟨g, cap, cur, h1, h2, (hk.block g (Array.getElem?_eq_some_iff.1 h3).1 (hS g h2)).trans h3, h4⟩⟩
theorem ofType_ne {w : World} {g k : Nat} {e T : TypeId} {cs : List Value} (h : Blk w g e cs) (ht : ofType w k T) (he : e ≠ T) : g ≠ k := by
  rintro rfl
  obtain ⟨c, f, h2⟩ := ht
  have := h.symm.trans h2
  cases this
  exact he rfl
/-- An append to the owned row is within the frame. -/
theorem KS.grown {base SB : Nat} {T : TypeId} {w w1 : World} {k n : Nat} {v : Value} {xs : List Value} (h : w.ownsRow base T k v n xs) (hg : w.grownBy w1 v.ownBlock) : KS base SB T w w1 :=
  ⟨hg.os, hg.tape, hg.output, hg.size, fun j hj _ ho => hg.block j hj (fun e => by
    obtain ⟨h1, h2⟩ := owns_lt h j e.symm
    rcases ho with ho | ho
    · omega
    · exact ho h2)⟩

/-- What was sent: to whom, and the payload. -/
def SEl (w : World) : List Value → List (ByteArray × List Value) → Prop
  | xs, [] => xs = []
  | xs, p :: r => ∃ g1 c1 g2 c2 d1 d2 ys, xs = .int .u8 9 :: .slice (some ⟨g1, 0, none⟩) 1 c1 :: .slice (some ⟨g2, 0, none⟩) p.2.length c2 :: ys ∧
      Blk w g1 9 (.string p.1 :: d1) ∧ Blk w g2 5 (p.2 ++ d2) ∧ SEl w ys r

theorem SEl.append {w : World} {ys : List Value} {M : List (ByteArray × List Value)} (h2 : SEl w ys M) : ∀ {L : List (ByteArray × List Value)} {xs : List Value}, SEl w xs L → SEl w (xs ++ ys) (L ++ M)
  | [], xs, h => by cases h; simpa using h2
  | p :: r, xs, ⟨g1, c1, g2, c2, d1, d2, zs, e, hb1, hb2, hr⟩ => ⟨g1, c1, g2, c2, d1, d2, zs ++ ys, by rw [e]; rfl, hb1, hb2, SEl.append h2 hr⟩
theorem SEl.of {w w' : World} (hk : ∀ g cs, Blk w g 9 cs → Blk w' g 9 cs) (hk5 : ∀ g cs, Blk w g 5 cs → Blk w' g 5 cs) : ∀ {L : List (ByteArray × List Value)} {xs : List Value}, SEl w xs L → SEl w' xs L
  | [], _, h => h
  | _ :: _, _, ⟨g1, c1, g2, c2, d1, d2, zs, e, hb1, hb2, hr⟩ => ⟨g1, c1, g2, c2, d1, d2, zs, e, hk _ _ hb1, hk5 _ _ hb2, SEl.of hk hk5 hr⟩
theorem SEl.len {w : World} : ∀ {L : List (ByteArray × List Value)} {xs : List Value}, SEl w xs L → xs.length = L.length * 3
  | [], xs, h => by cases h; rfl
  | p :: r, xs, ⟨g1, c1, g2, c2, d1, d2, zs, e, hb1, hb2, hr⟩ => by rw [e]; simp [SEl.len hr]; omega

/-- The cell SB holds the slice of what was sent, its row from base on. -/
def Sends (base : Nat) (w : World) (SB : Nat) (L : List (ByteArray × List Value)) : Prop :=
  ∃ v xs, Blk w SB 65 [v] ∧ w.ownsRow base 71 3 v L.length xs ∧ SEl w xs L

/-- What was delivered (bo: the copier's buffer). -/
def DEl (w : World) (bo : Option Nat) : List Value → List (ByteArray × ByteArray × Int × List Value) → Prop
  | xs, [] => xs = []
  | xs, p :: r => ∃ g c d ys, xs = .string p.1 :: .string p.2.1 :: .int .u64 p.2.2.1 :: .slice (some ⟨g, 0, none⟩) p.2.2.2.length c :: ys ∧ some g ≠ bo ∧
      Blk w g 5 (p.2.2.2 ++ d) ∧ DEl w bo ys r

theorem DEl.append {w : World} {bo : Option Nat} {ys : List Value} {M : List (ByteArray × ByteArray × Int × List Value)} (h2 : DEl w bo ys M) : ∀ {L : List (ByteArray × ByteArray × Int × List Value)} {xs : List Value}, DEl w bo xs L → DEl w bo (xs ++ ys) (L ++ M)
  | [], xs, h => by cases h; simpa using h2
  | p :: r, xs, ⟨g, c, d, zs, e, hne, hb, hr⟩ => ⟨g, c, d, zs ++ ys, by rw [e]; rfl, hne, hb, DEl.append h2 hr⟩
theorem DEl.of {w w' : World} {bo bo' : Option Nat} (hk5 : ∀ g cs, Blk w g 5 cs → some g ≠ bo → Blk w' g 5 cs ∧ some g ≠ bo') : ∀ {L : List (ByteArray × ByteArray × Int × List Value)} {xs : List Value}, DEl w bo xs L → DEl w' bo' xs L
  | [], _, h => h
  | _ :: _, _, ⟨g, c, d, zs, e, hne, hb, hr⟩ => ⟨g, c, d, zs, e, (hk5 _ _ hb hne).2, (hk5 _ _ hb hne).1, DEl.of hk5 hr⟩
theorem DEl.len {w : World} {bo : Option Nat} : ∀ {L : List (ByteArray × ByteArray × Int × List Value)} {xs : List Value}, DEl w bo xs L → xs.length = L.length * 4
  | [], xs, h => by cases h; rfl
  | p :: r, xs, ⟨g, c, d, zs, e, hne, hb, hr⟩ => by rw [e]; simp [DEl.len hr]; omega

def Dels (base : Nat) (w : World) (DB : Nat) (bo : Option Nat) (L : List (ByteArray × ByteArray × Int × List Value)) : Prop :=
  ∃ v xs, Blk w DB 66 [v] ∧ w.ownsRow base 74 4 v L.length xs ∧ DEl w bo xs L
end Go.Proofs.Ybulkdfze
