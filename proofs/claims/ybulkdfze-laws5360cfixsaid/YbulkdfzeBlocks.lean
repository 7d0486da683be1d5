/-
  OWN WORK: laws on blocks that are known whole: reading, storing, append, copy, make; of no program. No project text.
-/
import Derived.WalkKit
import Derived.Deep.AppendSrc
import Derived.Laws.CopyOwn
import Derived.Deep.Draws
namespace Go.Proofs.Ybulkdfze
open Go Go.RowKit

/-- To stand still at an operation, and to go on from it. -/
theorem halt {p : Prop} (h : Hid p) : p := h
theorem unhalt {p : Prop} (h : p) : Hid p := h

/-- Block g of w holds just the cells cs, none of them frozen. -/
def Blk (w : World) (g : Nat) (e : TypeId) (cs : List Value) : Prop := w.heap[g]? = some (.cells cs.toArray e (0, 0))

section
variable {w w' : World} {g : Nat} {e : TypeId} {cs : List Value} {row : Option Nat}

theorem Blk.lt (h : Blk w g e cs) : g < w.heap.size := (Array.getElem?_eq_some_iff.1 h).1
theorem Blk.cell (h : Blk w g e cs) (j : Nat) : w.cell? ⟨g, j, none⟩ = cs[j]? := by
  rw [cell_of_row w g j _ e _ h]; simp
theorem Blk.free (h : Blk w g e cs) (j : Nat) : w.frozen? ⟨g, j, none⟩ = false := frozen_of_row w g j _ e h
theorem Blk.of (h : Blk w g e cs) (hg : w'.heap[g]? = w.heap[g]?) : Blk w' g e cs := hg.trans h
theorem Blk.kept (h : Blk w g e cs) (hg : w.grownBy w' row) (hne : some g ≠ row) : Blk w' g e cs := h.of (hg.block g h.lt hne)
theorem Blk.alloc (h : Blk w g e cs) (o : Obj) : Blk (w.alloc o) g e cs := h.of (Below.heap_alloc w o g h.lt)
theorem Blk.drew (h : Blk w g e cs) : Blk w.drew g e cs := h
theorem Blk.drewN (h : Blk w g e cs) (n : Nat) : Blk (w.drewN n) g e cs := h
theorem Blk.new (w : World) (c : Array Value) (e : TypeId) : Blk (w.alloc (.cells c e)) w.heap.size e c.toList := by
  unfold Blk; rw [heap_alloc_new]
theorem Blk.set (h : Blk w g e cs) (j : Nat) (v : Value) : Blk (w.setCell ⟨g, j, none⟩ v) g e (cs.set j v) := by
  unfold Blk; rw [heap_setCell_same w g j _ e v h]; simp
theorem Blk.set_other (h : Blk w g e cs) (a : Addr) (v : Value) (hne : g ≠ a.block) : Blk (w.setCell a v) g e cs :=
  h.of (heap_setCell_other w a g v hne)
theorem Blk.all (h : Blk w g e cs) (ds : List Value) : Blk (w.setRow g ds.toArray) g e ds := setRow_heap w g _ _ e _ h
end

theorem grown_refl (w : World) (r : Option Nat) : w.grownBy w r := ⟨rfl, rfl, rfl, Nat.le_refl _, fun _ _ _ => rfl⟩
theorem grown_trans {w w1 w2 : World} {r r2 : Option Nat} (h1 : w.grownBy w1 r) (h2 : w1.grownBy w2 r2) (hr : ∀ k, r2 = some k → k < w.heap.size → r = some k) : w.grownBy w2 r :=
  ⟨h2.os.trans h1.os, h2.tape.trans h1.tape, h2.output.trans h1.output, Nat.le_trans h1.size h2.size, fun k hk hne => by
    have hs := h1.size
    rw [h2.block k (by omega) (fun e => hne (hr k e.symm hk).symm), h1.block k hk hne]⟩
theorem grown_alloc {w w1 : World} {r : Option Nat} (h : w.grownBy w1 r) (o : Obj) : w.grownBy (w1.alloc o) r :=
  grown_trans h (World.grownBy_alloc w1 o none) (fun _ h => by cases h)
theorem grown_drew {w w1 : World} {r : Option Nat} (h : w.grownBy w1 r) : w.grownBy w1.drew r := ⟨h.os, h.tape, h.output, h.size, h.block⟩
theorem grown_drewN {w w1 : World} {r : Option Nat} (h : w.grownBy w1 r) (n : Nat) : w.grownBy (w1.drewN n) r := ⟨h.os, h.tape, h.output, h.size, h.block⟩
theorem grown_setCell {w w1 : World} {r : Option Nat} (h : w.grownBy w1 r) (a : Addr) (v : Value) (hr : a.block < w.heap.size → r = some a.block) : w.grownBy (w1.setCell a v) r :=
  grown_trans h (r2 := some a.block) ⟨rfl, rfl, rfl, by simp, fun k _ hk => heap_setCell_other w1 a k v (fun e => hk (by rw [e]))⟩ (fun k hk hlt => by cases hk; exact hr hlt)
theorem below_grown {w w' : World} (h : w.grownBy w' none) : Below w.heap.size w w' := ⟨h.os, h.tape, h.output, h.size, fun k hk => h.block k hk (by simp)⟩

/-- What lies behind an address (or none): the cells xs. -/
def Rd (w : World) (ao : Option Addr) (xs : List Value) : Prop :=
  (ao = none → xs = []) ∧ ∀ x, ao = some x → ∀ j u, xs[j]? = some u → w.cell? (x.add j) = some u

theorem Rd.none (w : World) : Rd w Option.none [] := ⟨fun _ => rfl, fun x h => by cases h⟩
theorem Rd.empty (w : World) (ao : Option Addr) : Rd w ao [] := ⟨fun _ => rfl, fun x _ j u h => by simp at h⟩
theorem Rd.of {w w' : World} {ao : Option Addr} {xs : List Value} (h : Rd w ao xs) (hb : ∀ x, ao = some x → x.block < w.heap.size → w'.heap[x.block]? = w.heap[x.block]?) : Rd w' ao xs :=
  ⟨h.1, fun x hx j u hj => by
    have hc := h.2 x hx j u hj
    have hlt := block_lt_of_cell hc
    have hadd : (x.add j).block = x.block := by unfold Addr.add; split <;> rfl
    rw [hadd] at hlt
    rw [World.cell?_of_block (w := w) (by rw [hadd]; exact hb x hx hlt)]; exact hc⟩
theorem Rd.kept {w w' : World} {ao : Option Addr} {xs : List Value} {row : Option Nat} (h : Rd w ao xs) (hg : w.grownBy w' row) (hne : ∀ x, ao = some x → some x.block ≠ row) : Rd w' ao xs :=
  h.of fun x hx hlt => hg.block _ hlt (hne x hx)
theorem Rd.alloc {w : World} {ao : Option Addr} {xs : List Value} (h : Rd w ao xs) (o : Obj) : Rd (w.alloc o) ao xs := h.of fun _ _ hlt => Below.heap_alloc w o _ hlt
theorem Rd.below {w w' : World} {ao : Option Addr} {xs : List Value} (h : Rd w ao xs) (hb : Below w.heap.size w w') : Rd w' ao xs := h.of fun _ _ hlt => hb.block _ hlt
theorem Rd.of_blk {w : World} {g : Nat} {e : TypeId} {cs : List Value} (h : Blk w g e cs) (off : Nat) (xs : List Value) (hx : ∀ j u, xs[j]? = some u → cs[off + j]? = some u) : Rd w (some ⟨g, off, Option.none⟩) xs :=
  ⟨fun h => (by cases h), fun x hx' j u hj => by cases hx'; rw [Addr.add_lit, h.cell]; exact hx j u hj⟩
theorem Rd.at {w : World} {b off : Nat} {xs : List Value} (h : Rd w (some ⟨b, off, Option.none⟩) xs) (j : Nat) (hj : j < xs.length) : w.cell? ⟨b, off + j, Option.none⟩ = some xs[j] := by
  have := h.2 _ rfl j xs[j] (by simp [hj])
  rwa [Addr.add_lit] at this

theorem Rd.src {P : Program} {w : World} {ao : Option Addr} {xs : List Value} (h : Rd w ao xs) {t e' : TypeId} (hk : P.underlying t = some (.slice e')) (n c : Nat) (hn : xs.length = n) (h1 : ∀ u ∈ xs, u.oneCell' = true) : Src P 1 t (.slice ao n c) n xs w := by
  cases ao with
  | none =>
    have := h.1 rfl
    subst this
    simp at hn
    subst hn
    exact Src.ofNil w hk c
  | some x => exact Src.ofSlice w hk x n c xs (by simpa using hn) (h.2 x rfl) h1

/-- w' is w but for the blocks of the list S, and new ones. -/
structure Keep (S : List Nat) (w w' : World) : Prop where
  os : w'.os = w.os
  tape : w'.tape = w.tape
  output : w'.output = w.output
  size : w.heap.size ≤ w'.heap.size
  block : ∀ k, k < w.heap.size → k ∉ S → w'.heap[k]? = w.heap[k]?

theorem Keep.refl (S : List Nat) (w : World) : Keep S w w := ⟨rfl, rfl, rfl, Nat.le_refl _, fun _ _ _ => rfl⟩
theorem Keep.trans {S T : List Nat} {w w1 w2 : World} (h1 : Keep S w w1) (h2 : Keep T w1 w2) (hT : ∀ k, k ∈ T → k < w.heap.size → k ∈ S) : Keep S w w2 :=
  ⟨h2.os.trans h1.os, h2.tape.trans h1.tape, h2.output.trans h1.output, Nat.le_trans h1.size h2.size, fun k hk hne => by
    have hs := h1.size
    rw [h2.block k (by omega) (fun e => hne (hT k e hk)), h1.block k hk hne]⟩
theorem Keep.grown {S : List Nat} {w w1 w2 : World} {r : Option Nat} (h1 : Keep S w w1) (h2 : w1.grownBy w2 r) (hr : ∀ k, r = some k → k < w.heap.size → k ∈ S) : Keep S w w2 :=
  ⟨h2.os.trans h1.os, h2.tape.trans h1.tape, h2.output.trans h1.output, Nat.le_trans h1.size h2.size, fun k hk hne => by
    have hs := h1.size
    rw [h2.block k (by omega) (fun e => hne (hr k e.symm hk)), h1.block k hk hne]⟩
theorem Keep.alloc {S : List Nat} {w w1 : World} (h : Keep S w w1) (o : Obj) : Keep S w (w1.alloc o) := h.grown (World.grownBy_alloc w1 o none) (fun _ h => by cases h)
theorem Keep.drew {S : List Nat} {w w1 : World} (h : Keep S w w1) : Keep S w w1.drew := ⟨h.os, h.tape, h.output, h.size, h.block⟩
theorem Keep.drewN {S : List Nat} {w w1 : World} (h : Keep S w w1) (n : Nat) : Keep S w (w1.drewN n) := ⟨h.os, h.tape, h.output, h.size, h.block⟩
theorem Keep.setCell {S : List Nat} {w w1 : World} (h : Keep S w w1) (a : Addr) (v : Value) (ha : a.block < w.heap.size → a.block ∈ S) : Keep S w (w1.setCell a v) :=
  h.grown (r := some a.block) ⟨rfl, rfl, rfl, by simp, fun k _ hk => heap_setCell_other w1 a k v (fun e => hk (by rw [e]))⟩ (fun k hk hlt => by cases hk; exact ha hlt)
theorem Keep.mono {S T : List Nat} {w w1 : World} (h : Keep S w w1) (hS : ∀ k, k ∈ S → k < w.heap.size → k ∈ T) : Keep T w w1 :=
  ⟨h.os, h.tape, h.output, h.size, fun k hk hne => h.block k hk (fun e => hne (hS k e hk))⟩
theorem Keep.blk {S : List Nat} {w w1 : World} (h : Keep S w w1) {g : Nat} {e : TypeId} {cs : List Value} (hb : Blk w g e cs) (hg : g ∉ S) : Blk w1 g e cs := hb.of (h.block g hb.lt hg)
theorem Keep.rd {S : List Nat} {w w1 : World} (h : Keep S w w1) {ao : Option Addr} {xs : List Value} (hr : Rd w ao xs) (hg : ∀ x, ao = some x → x.block ∉ S) : Rd w1 ao xs :=
  hr.of fun x hx hlt => h.block _ hlt (hg x hx)
theorem Keep.below {w w1 : World} (h : Keep [] w w1) : Below w.heap.size w w1 := ⟨h.os, h.tape, h.output, h.size, fun k hk => h.block k hk (by simp)⟩
theorem Keep.cell {S : List Nat} {w w1 : World} (h : Keep S w w1) {a : Addr} {v : Value} (hc : w.cell? a = some v) (hg : a.block ∉ S) : w1.cell? a = some v :=
  (World.cell?_of_block (w := w) (h.block _ (block_lt_of_cell hc) hg)).trans hc
theorem Rd.lt {w : World} {ao : Option Addr} {xs : List Value} (h : Rd w ao xs) (hne : xs ≠ []) (x : Addr) (hx : ao = some x) : x.block < w.heap.size := by
  obtain ⟨u, r, rfl⟩ := List.exists_cons_of_ne_nil hne
  have := block_lt_of_cell (h.2 x hx 0 u rfl)
  have hadd : (x.add 0).block = x.block := by unfold Addr.add; split <;> rfl
  omega
theorem Keep.rd2 {S : List Nat} {w w1 : World} (h : Keep S w w1) {ao : Option Addr} {xs : List Value} (hr : Rd w ao xs) (hg : xs ≠ [] → ∀ x, ao = some x → x.block ∉ S) : Rd w1 ao xs := by
  by_cases hne : xs = []
  · subst hne; exact Rd.empty _ _
  · exact h.rd hr (hg hne)
theorem Rd.take {w : World} {ao : Option Addr} {xs : List Value} (h : Rd w ao xs) (n : Nat) : Rd w ao (xs.take n) :=
  ⟨fun e => by rw [h.1 e]; simp, fun x hx j u hj => h.2 x hx j u (by
    rw [List.getElem?_take] at hj
    split at hj
    · exact hj
    · cases hj)⟩
theorem Rd.drop {w : World} {b o : Nat} {xs : List Value} (h : Rd w (some ⟨b, o, Option.none⟩) xs) (n : Nat) : Rd w (some ⟨b, o + n, Option.none⟩) (xs.drop n) :=
  ⟨fun e => (by cases e), fun x hx j u hj => by
    cases hx
    have := h.2 _ rfl (n + j) u (by rwa [List.getElem?_drop] at hj)
    rw [Addr.add_lit] at this ⊢
    rwa [Nat.add_assoc]⟩
theorem Blk.new' (w : World) (c : Array Value) (e : TypeId) (g : Nat) (hg : g = w.heap.size) : Blk (w.alloc (.cells c e)) g e c.toList := by subst hg; exact Blk.new w c e
theorem Blk.cast {w : World} {g : Nat} {e : TypeId} {cs ds : List Value} (h : Blk w g e cs) (hd : cs = ds) : Blk w g e ds := hd ▸ h

theorem zeroCells_one (z : Value) (n : Nat) (hz1 : z.cells = #[z]) : (Builtin.zeroCells z.cells n).toList = List.replicate n z := by
  have := toList_madeCells_one z n
  rw [hz1]
  simpa [Builtin.zeroCells, madeCells] using this

section
variable {P : Program} (w : World)

/-- append, there is room: the row known whole. -/
theorem run_app_room (t ty e : TypeId) (i : TypeInfo) (ht : P.underlying t = some (.slice e)) (hi : P.info? e = some i) (hsz : i.size = 1) (g off n cap : Nat) (cs : List Value) (hB : Blk w g e cs)
    (x : Value) (m : Nat) (news : List Value) (hs : Src P 1 t x m news w) (hroom : n + m ≤ cap) (hfit : off + n + m ≤ cs.length) :
    (Builtin.append_ #[t, t] ty #[.slice (some ⟨g, off, none⟩) n cap, x]).run P w = .ok (.slice (some ⟨g, off, none⟩) (n + m) cap) (w.setRow g (splice cs (off + n) news).toArray) := by
  have hnl := hs.newsLen
  have hst := run_storeCells_at P g (off + n) e news 0 cs.toArray w hB (by simp; omega) hs.one
  simp only [Nat.add_zero] at hst
  have hlen := hs.len
  have hcl := hs.cells
  have hk := hs.kind
  have e1 : splice cs (off + n) news = cs.take (off + n) ++ news ++ cs.drop (off + n + news.length) := by simp [splice]
  rw [e1]
  rcases hk with ⟨e', hk⟩ | hk <;> simp [Builtin.append_, run_underlying ht, sizeOf, typeInfo, hi, hsz, hlen, hroom, hcl, Addr.add_lit, hst]

/-- append, there is none: a new row. -/
theorem run_app_grow (t ty e : TypeId) (i : TypeInfo) (z : Value) (ht : P.underlying t = some (.slice e)) (hi : P.info? e = some i) (hz : i.zero = some z) (hsz : i.size = 1) (hz1 : z.cells = #[z]) (bo : Option Addr) (n cap : Nat) (olds : List Value)
    (hR : Rd w bo olds) (hol : olds.length = n) (x : Value) (m : Nat) (news : List Value) (hs : Src P 1 t x m news w)
    (hg : cap < n + m) (hby : (n + m) * i.bytes ≤ 140737488355328) (hmax : n + m ≤ maxLen) :
    ∃ cap' w', (Builtin.append_ #[t, t] ty #[.slice bo n cap, x]).run P w = .ok (.slice (some ⟨w.heap.size, 0, none⟩) (n + m) cap') w' ∧ n + m ≤ cap' ∧ cap' ≤ maxLen ∧
      Blk w' w.heap.size e (olds ++ news ++ List.replicate (cap' - (n + m)) z) ∧ w.grownBy w' none ∧ w'.heap.size = w.heap.size + 1 := by
  have hold : (Builtin.firstCells i.size n (.slice bo n cap)).run P w.drew = .ok olds.toArray w.drew := by
    rw [hsz]
    cases bo with
    | none =>
      have := hR.1 rfl
      subst this
      simp at hol
      subst hol
      exact run_firstCells_none w.drew 1 0 0 cap
    | some a => exact run_firstCells_some w.drew 1 n a n cap olds (by simpa using hol) (fun j u hj => hR.2 a rfl j u hj)
  have hs' : Src P i.size t x m news w := by rw [hsz]; exact hs
  have hr := run_append_grow_src (P := P) w t t ty e i z ht hi hz bo n cap olds hold x m news hs' hg (by simp only [maxLen] at hmax; omega) (growslice_fits (by omega) hby)
  refine ⟨_, _, hr, grownCap_ge _ _ _ _, grownCap_le_maxLen _ _ _ _ hmax, ?_, ⟨rfl, rfl, rfl, by simp, fun k hk _ => Below.heap_alloc w.drew _ k hk⟩, by simp⟩
  have hb := Blk.new w.drew ((olds ++ news).toArray ++ Builtin.zeroCells z.cells (grownCap w (n + m) cap e - (n + m))) e
  have e2 : ((olds ++ news).toArray ++ Builtin.zeroCells z.cells (grownCap w (n + m) cap e - (n + m))).toList = olds ++ news ++ List.replicate (grownCap w (n + m) cap e - (n + m)) z := by
    rw [Array.toList_append, zeroCells_one z _ hz1]
  rw [e2] at hb
  exact hb

/-- 'make([]T, l, c)'. -/
theorem run_mk (t e : TypeId) (i : TypeInfo) (z : Value) (ht : P.underlying t = some (.slice e)) (hi : P.info? e = some i) (hz : i.zero = some z) (hsz : i.size = 1) (hz1 : z.cells = #[z])
    (kl kc : IntKind) (l c : Nat) (hlc : l ≤ c) (hby : i.bytes * c ≤ 281474976710656) (hmax : c ≤ maxLen) :
    ∃ w', (Instr.makeSlice t (.int kl (l : Int)) (.int kc (c : Int))).run P w = .ok (.slice (some ⟨w.heap.size, 0, none⟩) l c) w' ∧ Blk w' w.heap.size e (List.replicate c z) ∧ w.grownBy w' none ∧ w'.heap.size = w.heap.size + 1 := by
  have hb' : (i.bytes : Int) * (c : Int) ≤ 281474976710656 := by
    have h : ((i.bytes * c : Nat) : Int) ≤ 281474976710656 := by omega
    rwa [Int.natCast_mul] at h
  have hr := run_make (P := P) w t e i z ht hi hz kl kc l c (by omega) (by omega) hb' (by simp only [maxLen] at hmax; omega)
  simp only [Int.toNat_natCast] at hr
  refine ⟨_, hr, ?_, World.grownBy_alloc w _ none, by simp⟩
  have hb := Blk.new w (madeCells z.cells (c * i.size)) e
  have e2 : (madeCells z.cells (c * i.size)).toList = List.replicate c z := by
    rw [hz1, hsz, Nat.mul_one]; exact toList_madeCells_one z c
  rw [e2] at hb
  exact hb

/-! ### The same for the walk -/
variable {ops : Array Oper} {rest : List Oper} {o : Oper} {a : Act} {Q : Exit → Act → World → Prop}

theorem wp_app_room {K : Act → World → Prop} (s x : Operand) (t : TypeId) (ho : o.op = .call { callee := .builtin .append, args := #[s, x], argTypes := #[t, t] })
    (e : TypeId) (i : TypeInfo) (ht : P.underlying t = some (.slice e)) (hi : P.info? e = some i) (hsz : i.size = 1)
    (g off n cap : Nat) (hs : a.eval s = .slice (some ⟨g, off, none⟩) n cap) (ao : Option Addr) (m c : Nat) (hx : a.eval x = .slice ao m c)
    (cs news : List Value) (hB : Blk w g e cs) (hR : Rd w ao news) (hl : news.length = m) (h1 : ∀ u ∈ news, u.oneCell' = true) (hroom : n + m ≤ cap) (hfit : off + n + m ≤ cs.length)
    (h : ∀ w', Blk w' g e (splice cs (off + n) news) → w.grownBy w' (some g) → w'.heap.size = w.heap.size → K (a.put o.dst (.slice (some ⟨g, off, none⟩) (n + m) cap)) w') : o.wp P a w K Q := by
  have hr := run_app_room (P := P) w t o.type e i ht hi hsz g off n cap cs hB _ m news (hR.src ht m c hl h1) hroom hfit
  unfold Oper.wp execOp
  simp only [ho, resolve, invoke, builtin, Sem.run_bind, Sem.run_pure, Result.andThen_ok, List.map_toArray, List.map_cons, List.map_nil, hs, hx, hr]
  exact h _ (hB.all _) ⟨rfl, rfl, rfl, by simp, fun k _ hk => setRow_other w g k _ (fun e => hk (by rw [e]))⟩ (by simp)

theorem wpList_app_room (hgd : o.guard = none) (s x : Operand) (t : TypeId) (ho : o.op = .call { callee := .builtin .append, args := #[s, x], argTypes := #[t, t] })
    (e : TypeId) (i : TypeInfo) (ht : P.underlying t = some (.slice e)) (hi : P.info? e = some i) (hsz : i.size = 1)
    (g off n cap : Nat) (hs : a.eval s = .slice (some ⟨g, off, none⟩) n cap) (ao : Option Addr) (m c : Nat) (hx : a.eval x = .slice ao m c)
    (cs news : List Value) (hB : Blk w g e cs) (hR : Rd w ao news) (hl : news.length = m) (h1 : ∀ u ∈ news, u.oneCell' = true) (hroom : n + m ≤ cap) (hfit : off + n + m ≤ cs.length)
    (h : ∀ w', Blk w' g e (splice cs (off + n) news) → w.grownBy w' (some g) → w'.heap.size = w.heap.size → wpList P ops Q rest (a.put o.dst (.slice (some ⟨g, off, none⟩) (n + m) cap)) w') : wpList P ops Q (o :: rest) a w :=
  wpList_plain hgd fun _ hK => wp_app_room w s x t ho e i ht hi hsz g off n cap hs ao m c hx cs news hB hR hl h1 hroom hfit fun w' h2 h3 h4 => hK _ _ (h w' h2 h3 h4)

theorem step_app_room {K : Act → World → Prop} {E : Prop} (hgd : o.guard = none) (s x : Operand) (t : TypeId) (ho : o.op = .call { callee := .builtin .append, args := #[s, x], argTypes := #[t, t] })
    (e : TypeId) (i : TypeInfo) (ht : P.underlying t = some (.slice e)) (hi : P.info? e = some i) (hsz : i.size = 1)
    (g off n cap : Nat) (hs : a.eval s = .slice (some ⟨g, off, none⟩) n cap) (ao : Option Addr) (m c : Nat) (hx : a.eval x = .slice ao m c)
    (cs news : List Value) (hB : Blk w g e cs) (hR : Rd w ao news) (hl : news.length = m) (h1 : ∀ u ∈ news, u.oneCell' = true) (hroom : n + m ≤ cap) (hfit : off + n + m ≤ cs.length)
    (h : ∀ w', Blk w' g e (splice cs (off + n) news) → w.grownBy w' (some g) → w'.heap.size = w.heap.size → K (a.put o.dst (.slice (some ⟨g, off, none⟩) (n + m) cap)) w') :
    if Region.wanted o (yielded ops a.tmps) = true then Oper.wp P o a w K Q else E := by
  have hw : Region.wanted o (yielded ops a.tmps) = true := by simp [Region.wanted, hgd]
  rw [if_pos hw]
  exact wp_app_room w s x t ho e i ht hi hsz g off n cap hs ao m c hx cs news hB hR hl h1 hroom hfit h

theorem wpList_app_grow (hgd : o.guard = none) (s x : Operand) (t : TypeId) (ho : o.op = .call { callee := .builtin .append, args := #[s, x], argTypes := #[t, t] })
    (e : TypeId) (i : TypeInfo) (z : Value) (ht : P.underlying t = some (.slice e)) (hi : P.info? e = some i) (hz : i.zero = some z) (hsz : i.size = 1) (hz1 : z.cells = #[z])
    (bo : Option Addr) (n cap : Nat) (hs : a.eval s = .slice bo n cap) (ao : Option Addr) (m c : Nat) (hx : a.eval x = .slice ao m c)
    (olds news : List Value) (hO : Rd w bo olds) (hol : olds.length = n) (hR : Rd w ao news) (hl : news.length = m) (h1 : ∀ u ∈ news, u.oneCell' = true) (hg : cap < n + m) (hby : (n + m) * i.bytes ≤ 140737488355328) (hmax : n + m ≤ maxLen)
    (h : ∀ cap' w', n + m ≤ cap' → Blk w' w.heap.size e (olds ++ news ++ List.replicate (cap' - (n + m)) z) → w.grownBy w' none → w'.heap.size = w.heap.size + 1 → wpList P ops Q rest (a.put o.dst (.slice (some ⟨w.heap.size, 0, none⟩) (n + m) cap')) w') : wpList P ops Q (o :: rest) a w := by
  refine wpList_plain hgd fun K hK => ?_
  obtain ⟨cap', w', hr, h2, _, h3, h4, h5⟩ := run_app_grow (P := P) w t o.type e i z ht hi hz hsz hz1 bo n cap olds hO hol _ m news (hR.src ht m c hl h1) hg hby hmax
  unfold Oper.wp execOp
  simp only [ho, resolve, invoke, builtin, Sem.run_bind, Sem.run_pure, Result.andThen_ok, List.map_toArray, List.map_cons, List.map_nil, hs, hx, hr]
  exact hK _ _ (h cap' w' h2 h3 h4 h5)

/-- 'append([]T{}, xs...)': a copy of xs, in memory of the call's own. -/
theorem wpList_app_clone (hgd : o.guard = none) (s x : Operand) (t : TypeId) (ho : o.op = .call { callee := .builtin .append, args := #[s, x], argTypes := #[t, t] })
    (e : TypeId) (i : TypeInfo) (z : Value) (ht : P.underlying t = some (.slice e)) (hi : P.info? e = some i) (hz : i.zero = some z) (hsz : i.size = 1) (hz1 : z.cells = #[z])
    (g : Nat) (hs : a.eval s = .slice (some ⟨g, 0, none⟩) 0 0) (hB : Blk w g e []) (ao : Option Addr) (m c : Nat) (hx : a.eval x = .slice ao m c)
    (news : List Value) (hR : Rd w ao news) (hl : news.length = m) (h1 : ∀ u ∈ news, u.oneCell' = true) (hby : m * i.bytes ≤ 140737488355328) (hmax : m ≤ maxLen)
    (h : ∀ g' cap' w', (g' = g ∨ g' = w.heap.size) → m ≤ cap' → Blk w' g' e (news ++ List.replicate (cap' - m) z) → w.grownBy w' none → g' < w'.heap.size → wpList P ops Q rest (a.put o.dst (.slice (some ⟨g', 0, none⟩) m cap')) w') : wpList P ops Q (o :: rest) a w := by
  by_cases hm : m = 0
  · subst hm
    obtain rfl : news = [] := List.eq_nil_of_length_eq_zero hl
    refine wpList_plain hgd fun K hK => ?_
    have hr := run_app_room (P := P) w t o.type e i ht hi hsz g 0 0 0 [] hB _ 0 [] (hR.src ht 0 c rfl h1) (Nat.le_refl _) (by simp)
    unfold Oper.wp execOp
    simp only [ho, resolve, invoke, builtin, Sem.run_bind, Sem.run_pure, Result.andThen_ok, List.map_toArray, List.map_cons, List.map_nil, hs, hx, hr]
    have e1 : (splice ([] : List Value) (0 + 0) []) = [] := by simp [splice]
    rw [e1]
    refine hK _ _ (h g 0 _ (.inl rfl) (Nat.le_refl _) (hB.all _) ⟨rfl, rfl, rfl, by simp, fun k hk _ => ?_⟩ (by simpa using hB.lt))
    by_cases hkg : k = g
    · subst hkg; rw [show w.heap[k]? = _ from hB]; exact setRow_heap w k _ _ e _ hB
    · exact setRow_other w g k _ hkg
  · refine wpList_app_grow w hgd s x t ho e i z ht hi hz hsz hz1 (some ⟨g, 0, none⟩) 0 0 hs ao m c hx [] news (Rd.empty _ _) rfl hR hl h1 (by omega) (by simpa using hby) (by simpa using hmax) fun cap' w' h2 h3 h4 h5 => ?_
    simp only [Nat.zero_add, List.nil_append] at h2 h3 ⊢
    exact h w.heap.size cap' w' (.inr rfl) h2 h3 h4 (by omega)

/-- 'append([]T{x, y, z}, xs...)': a row without room: a copy with xs behind it, in memory of the call's own. -/
theorem wpList_app_full (hgd : o.guard = none) (s x : Operand) (t : TypeId) (ho : o.op = .call { callee := .builtin .append, args := #[s, x], argTypes := #[t, t] })
    (e : TypeId) (i : TypeInfo) (z : Value) (ht : P.underlying t = some (.slice e)) (hi : P.info? e = some i) (hz : i.zero = some z) (hsz : i.size = 1) (hz1 : z.cells = #[z])
    (g n : Nat) (hs : a.eval s = .slice (some ⟨g, 0, none⟩) n n) (olds : List Value) (hB : Blk w g e olds) (hol : olds.length = n) (ao : Option Addr) (m c : Nat) (hx : a.eval x = .slice ao m c)
    (news : List Value) (hR : Rd w ao news) (hl : news.length = m) (h1 : ∀ u ∈ news, u.oneCell' = true) (hby : (n + m) * i.bytes ≤ 140737488355328) (hmax : n + m ≤ maxLen)
    (h : ∀ g' cap' w', (g' = g ∨ g' = w.heap.size) → n + m ≤ cap' → Blk w' g' e (olds ++ news ++ List.replicate (cap' - (n + m)) z) → w.grownBy w' none → g' < w'.heap.size → wpList P ops Q rest (a.put o.dst (.slice (some ⟨g', 0, none⟩) (n + m) cap')) w') : wpList P ops Q (o :: rest) a w := by
  by_cases hm : m = 0
  · subst hm
    obtain rfl : news = [] := List.eq_nil_of_length_eq_zero hl
    refine wpList_plain hgd fun K hK => ?_
    have hr := run_app_room (P := P) w t o.type e i ht hi hsz g 0 n n olds hB _ 0 [] (hR.src ht 0 c rfl h1) (Nat.le_refl _) (by omega)
    unfold Oper.wp execOp
    simp only [ho, resolve, invoke, builtin, Sem.run_bind, Sem.run_pure, Result.andThen_ok, List.map_toArray, List.map_cons, List.map_nil, hs, hx, hr]
    have e1 : splice olds (0 + n) [] = olds := by simp [splice]
    rw [e1]
    refine hK _ _ (h g n _ (.inl rfl) (Nat.le_refl _) ((hB.all _).cast (by simp)) ⟨rfl, rfl, rfl, by simp, fun k hk _ => ?_⟩ (by simpa using hB.lt))
    by_cases hkg : k = g
    · subst hkg; rw [show w.heap[k]? = _ from hB]; exact setRow_heap w k _ _ e _ hB
    · exact setRow_other w g k _ hkg
  · refine wpList_app_grow w hgd s x t ho e i z ht hi hz hsz hz1 (some ⟨g, 0, none⟩) n n hs ao m c hx olds news (Rd.of_blk hB 0 _ (fun j u hj => by simpa using hj)) hol hR hl h1 (by omega) hby hmax fun cap' w' h2 h3 h4 h5 => ?_
    exact h w.heap.size cap' w' (.inr rfl) h2 h3 h4 (by omega)

theorem wpList_mk (hgd : o.guard = none) (l c : Operand) (t : TypeId) (hop : o.op = Op.makeSlice t l c)
    (e : TypeId) (i : TypeInfo) (z : Value) (ht : P.underlying t = some (.slice e)) (hi : P.info? e = some i) (hz : i.zero = some z) (hsz : i.size = 1) (hz1 : z.cells = #[z])
    (kl kc : IntKind) (L C : Int) (nl nc : Nat) (hl : a.eval l = .int kl L) (hc : a.eval c = .int kc C) (hL : L = (nl : Int)) (hC : C = (nc : Int)) (hlc : nl ≤ nc) (hby : i.bytes * nc ≤ 281474976710656) (hmax : nc ≤ maxLen)
    (h : ∀ w', Blk w' w.heap.size e (List.replicate nc z) → w.grownBy w' none → w'.heap.size = w.heap.size + 1 → wpList P ops Q rest (a.put o.dst (.slice (some ⟨w.heap.size, 0, none⟩) nl nc)) w') : wpList P ops Q (o :: rest) a w := by
  refine wpList_plain hgd fun K hK => ?_
  subst hL hC
  obtain ⟨w', hrun, r1, r2, r3⟩ := run_mk (P := P) w t e i z ht hi hz hsz hz1 kl kc nl nc hlc hby hmax
  unfold Oper.wp
  simp [execOp, hop, hl, hc, hrun, Result.andThen]
  exact hK _ _ (h w' r1 r2 r3)

/-- To stand still at a copy. -/
theorem halt_copy (d s : Operand) (dT sT : TypeId) (_ho : o.op = .call { callee := .builtin .copy, args := #[d, s], argTypes := #[dT, sT] }) (h : Hid (wpList P ops Q (o :: rest) a w)) : wpList P ops Q (o :: rest) a w := h

/-- 'copy(dst, src)', dst in a row known whole. -/
theorem wpList_copy_blk (hgd : o.guard = none) (d s : Operand) (t : TypeId) (ho : o.op = .call { callee := .builtin .copy, args := #[d, s], argTypes := #[t, t] })
    (e : TypeId) (i : TypeInfo) (ht : P.underlying t = some (.slice e)) (hi : P.info? e = some i) (hsz : i.size = 1)
    (g off dl dc : Nat) (hd : a.eval d = .slice (some ⟨g, off, none⟩) dl dc) (ao : Option Addr) (sl sc : Nat) (hs : a.eval s = .slice ao sl sc)
    (cs xs : List Value) (hB : Blk w g e cs) (hR : Rd w ao xs) (hl : xs.length = sl) (hdl : sl ≤ dl) (h1 : ∀ u ∈ xs, u.oneCell' = true) (hfit : off + sl ≤ cs.length)
    (h : ∀ w', Blk w' g e (splice cs off xs) → w.grownBy w' (some g) → w'.heap.size = w.heap.size → wpList P ops Q rest (a.put o.dst (goInt sl)) w') : wpList P ops Q (o :: rest) a w := by
  have hq : (P.info? e).map (·.size) = some 1 := by rw [hi]; simp [hsz]
  cases ao with
  | none =>
    have hx := hR.1 rfl
    subst hx
    simp at hl
    subst hl
    refine wpList_copy_nothing hgd d s t t ho e ht hq _ _ dl dc 0 sc hd hs (by simp) ?_
    exact h w (hB.cast (by simp [splice])) (grown_refl w _) rfl
  | some ad =>
    refine wpList_copy_own hgd d s t t ho e ht hq g off dl dc ad sl sc hd hs cs.toArray e hB xs (by rw [hl]; exact (Nat.min_eq_left hdl).symm) (hR.2 ad rfl) (by simp; omega) h1 ?_
    rw [hl]
    have e1 : (cs.toArray.toList.take off ++ (xs ++ cs.toArray.toList.drop (off + sl))).toArray = (splice cs off xs).toArray := by simp [splice, hl]
    rw [e1]
    exact h _ (hB.all _) ⟨rfl, rfl, rfl, by simp, fun k _ hk => setRow_other w g k _ (fun e => hk (by rw [e]))⟩ (by simp)
end
theorem orR {a b c : Prop} (h : a ∨ b) (f : b → c) : a ∨ c := by
  rcases h with h | h
  · exact .inl h
  · exact .inr (f h)
end Go.Proofs.Ybulkdfze
