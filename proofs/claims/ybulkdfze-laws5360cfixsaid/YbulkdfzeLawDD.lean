import Derived.Test.YbulkdfzeLawDC
namespace Go.Proofs.Ybulkdfze
open Go Go.RowKit Go.Lib Go.Shelf
section
variable {P : Program} (w : World) {ops : Array Oper} {rest : List Oper} {o : Oper} {a : Act} {Q : Exit → Act → World → Prop}
theorem wpList_mk_k (hgd : o.guard = none) (l c : Operand) (t : TypeId) (hop : o.op = Op.makeSlice t l c)
    (e : TypeId) (i : TypeInfo) (z : Value) (k : Nat) (ht : P.underlying t = some (.slice e)) (hi : P.info? e = some i) (hz : i.zero = some z) (hsz : i.size = k)
    (kl kc : IntKind) (L C : Int) (nl nc : Nat) (hl : a.eval l = .int kl L) (hc : a.eval c = .int kc C) (hL : L = (nl : Int)) (hC : C = (nc : Int)) (hlc : nl ≤ nc) (hby : i.bytes * nc ≤ 281474976710656) (hmax : nc ≤ maxLen)
    (h : ∀ w' cs, cs.length = nc * k → Blk w' w.heap.size e cs → w.grownBy w' none → w'.heap.size = w.heap.size + 1 → wpList P ops Q rest (a.put o.dst (.slice (some ⟨w.heap.size, 0, none⟩) nl nc)) w') : wpList P ops Q (o :: rest) a w := by
  refine wpList_plain hgd fun K hK => ?_
  subst hL hC
  have hb' : (i.bytes : Int) * (nc : Int) ≤ 281474976710656 := by
    have h : ((i.bytes * nc : Nat) : Int) ≤ 281474976710656 := by omega
    rwa [Int.natCast_mul] at h
  have hr := run_make (P := P) w t e i z ht hi hz kl kc nl nc (by omega) (by omega) hb' (by simp only [maxLen] at hmax; omega)
  simp only [Int.toNat_natCast] at hr
  unfold Oper.wp
  simp [execOp, hop, hl, hc, hr, Result.andThen]
  refine hK _ _ (h _ (madeCells z.cells (nc * i.size)).toList ?_ (Blk.new w _ e) (World.grownBy_alloc w _ none) (by simp))
  simp [madeCells, hsz]

theorem step_app_room_k {K : Act → World → Prop} {E : Prop} (hgd : o.guard = none) (s x : Operand) (t : TypeId) (ho : o.op = .call { callee := .builtin .append, args := #[s, x], argTypes := #[t, t] })
    (e : TypeId) (i : TypeInfo) (k : Nat) (ht : P.underlying t = some (.slice e)) (hi : P.info? e = some i) (hsz : i.size = k)
    (g off n cap : Nat) (hs : a.eval s = .slice (some ⟨g, off, none⟩) n cap) (ad : Addr) (m c : Nat) (hx : a.eval x = .slice (some ad) m c)
    (cs news : List Value) (hB : Blk w g e cs) (hl : news.length = m * k) (hnews : ∀ j u, news[j]? = some u → w.cell? (ad.add j) = some u) (h1 : ∀ u ∈ news, u.oneCell' = true) (hroom : n + m ≤ cap) (hfit : off + n * k + m * k ≤ cs.length)
    (h : ∀ w', Blk w' g e (splice cs (off + n * k) news) → w.grownBy w' (some g) → K (a.put o.dst (.slice (some ⟨g, off, none⟩) (n + m) cap)) w') :
    if Region.wanted o (yielded ops a.tmps) = true then Oper.wp P o a w K Q else E := by
  have hw : Region.wanted o (yielded ops a.tmps) = true := by simp [Region.wanted, hgd]
  rw [if_pos hw]
  have hr := run_app_room_k (P := P) w t o.type e i k ht hi hsz g off n cap cs hB ad m c news hl hnews h1 hroom hfit
  unfold Oper.wp execOp
  simp only [ho, resolve, invoke, builtin, Sem.run_bind, Sem.run_pure, Result.andThen_ok, List.map_toArray, List.map_cons, List.map_nil, hs, hx, hr]
  exact h _ (hB.all _) ⟨rfl, rfl, rfl, by simp, fun k _ hk => setRow_other w g k _ (fun e => hk (by rw [e]))⟩
end

theorem addr_add2 (a : Addr) (m n : Nat) : (a.add m).add n = a.add (m + n) := by
  unfold Addr.add
  by_cases hm : m = 0
  · subst hm; simp
  · by_cases hn : n = 0
    · subst hn; simp [hm]
    · simp [hm, hn]; omega
theorem wrap_u8 (z : Int) (h0 : 0 ≤ z) (h1 : z < 256) : IntKind.u8.wrap z = z := by
  have h : IntKind.u8.wrap z = z % 256 := rfl
  rw [h]; omega
theorem splice_at (xs rs ys : List Value) (k : Nat) (hk : xs.length = k) : splice (xs ++ rs) k ys = xs ++ ys ++ rs.drop ys.length := by
  unfold splice
  rw [List.take_left' hk, List.drop_append, List.drop_eq_nil_of_le (by omega), List.nil_append, List.append_assoc]
  congr 3
  omega
def fiOf (q : Int × Int) : Nat := (q.1 % 4).toNat
theorem fi_lt (q : Int × Int) : fiOf q < 4 := by unfold fiOf; omega
/-- The received message that stands for q. -/
def RcvOk (w : World) (p : Rcv) (q : Int × Int) : Prop :=
  p.1 = nameB (fiOf q) ∧ p.2.1 = q.2 % 10 ∧ p.2.2.2.1 = q.2 % 10 ∧ p.2.2.2.2 = 97 + (fiOf q : Int) ∧ ∃ mb, p.2.2.1 = ⟨mb, 0, none⟩ ∧ Blk w mb 5 [.int .u8 p.2.2.2.1, .int .u8 p.2.2.2.2]
def HsOk (D : LD) (w : World) (hs : List Rcv) : Prop := ∀ (k : Nat) (p : Rcv) (q : Int × Int), hs[k]? = some p → D.held[k]? = some q → RcvOk w p q
theorem HsOk.keep {D : LD} {w w1 : World} {hs : List Rcv} (h : HsOk D w hs) (hk : ∀ g cs, Blk w g 5 cs → Blk w1 g 5 cs) : HsOk D w1 hs := fun k p q hp hq => by
  obtain ⟨h1, h2, h3, h4, mb, h5, h6⟩ := h k p q hp hq
  exact ⟨h1, h2, h3, h4, mb, h5, hk _ _ h6⟩
theorem HsOk.snoc {D : LD} {w : World} {hs : List Rcv} (h : HsOk D w hs) {p : Rcv} {q : Int × Int} (hq : D.held[hs.length]? = some q) (hp : RcvOk w p q) : HsOk D w (hs ++ [p]) := fun k p' q' hp' hq' => by
  by_cases hk : k < hs.length
  · rw [List.getElem?_append_left hk] at hp'
    exact h k p' q' hp' hq'
  · have hke : k = hs.length := by
      have := (List.getElem?_eq_some_iff.1 hp').1
      simp at this
      omega
    subst hke
    simp at hp'
    subst hp'
    rw [hq] at hq'
    cases hq'
    exact hp
theorem hcells_get {l : List (Int × Int)} {j : Nat} {q : Int × Int} : l[j]? = some q → (hcells l)[j * 2]? = some (.int .u8 q.1) ∧ (hcells l)[j * 2 + 1]? = some (.int .u8 q.2) := by
  induction l generalizing j with
  | nil => intro h; cases h
  | cons p r ih =>
    intro h
    cases j with
    | zero => simp at h; subst h; exact ⟨rfl, rfl⟩
    | succ j =>
      have := ih (j := j) (by simpa using h)
      have e : (j + 1) * 2 = j * 2 + 2 := by omega
      rw [e]
      exact this
def fromsL (l : List (Int × Int)) : List Value := l.map fun q => .int .i64 (fiOf q : Int)
def seqsL (l : List (Int × Int)) : List Value := l.map fun q => .int .u64 (q.2 % 10)

structure LH where
  (HF HQ HR : Nat)
  (hs : List Rcv)
structure FD (D : LD) (J : LH) (w : World) : Prop where
  hHF : Blk w J.HF 3 (fromsL D.held)
  hHQ : Blk w J.HQ 31 (seqsL D.held)
  hHR : Blk w J.HR 64 (flat vone J.hs)
  lhs : J.hs.length = D.held.length
  hok : HsOk D w J.hs
  hbs : D.w0.heap.size ≤ J.HR
theorem FD.keep {D : LD} {J : LH} {w w1 : World} (h : FD D J w) (k : Keep [] w w1) : FD D J w1 :=
  ⟨k.blk h.hHF (by simp), k.blk h.hHQ (by simp), k.blk h.hHR (by simp), h.lhs, h.hok.keep fun g cs hb => k.blk hb (by simp), h.hbs⟩
structure SD (D : LD) (J : LH) (a : Act) : Prop where
  s35 : a.tmps[35]? = some (.slice (some ⟨J.HF, 0, none⟩) D.held.length D.held.length)
  s36 : a.tmps[36]? = some (.slice (some ⟨J.HQ, 0, none⟩) D.held.length D.held.length)
  s37 : a.tmps[37]? = some (.slice (some ⟨J.HR, 0, none⟩) D.held.length D.held.length)
theorem info3 : (Yba.prog.info? 3).map (fun i => (i.zero.isSome, i.size, i.bytes)) = some (true, 1, 8) := by kernel_rfl
theorem info31b : (Yba.prog.info? 31).map (fun i => (i.zero.isSome, i.size, i.bytes)) = some (true, 1, 8) := by kernel_rfl
end Go.Proofs.Ybulkdfze
