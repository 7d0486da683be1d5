import Derived.Test.YbulkdfzeDeliver
namespace Go.Proofs.Ybulkdfze
open Go Go.RowKit Go.Lib Go.Shelf
section
variable {P : Program} (w : World) {ops : Array Oper} {rest : List Oper} {o : Oper} {a : Act} {Q : Exit → Act → World → Prop}

/-- append of elements of k cells, there is room: the row known whole. -/
theorem run_app_room_k (t ty e : TypeId) (i : TypeInfo) (k : Nat) (ht : P.underlying t = some (.slice e)) (hi : P.info? e = some i) (hsz : i.size = k) (g off n cap : Nat) (cs : List Value) (hB : Blk w g e cs)
    (ad : Addr) (m c : Nat) (news : List Value) (hl : news.length = m * k) (hnews : ∀ j u, news[j]? = some u → w.cell? (ad.add j) = some u) (h1 : ∀ u ∈ news, u.oneCell' = true) (hroom : n + m ≤ cap) (hfit : off + n * k + m * k ≤ cs.length) :
    (Builtin.append_ #[t, t] ty #[.slice (some ⟨g, off, none⟩) n cap, .slice (some ad) m c]).run P w = .ok (.slice (some ⟨g, off, none⟩) (n + m) cap) (w.setRow g (splice cs (off + n * k) news).toArray) := by
  subst hsz
  have hfc := run_firstCells_some (P := P) w i.size m ad m c news hl hnews
  have hst := run_storeCells_at P g (off + n * i.size) e news 0 cs.toArray w hB (by simp; omega) h1
  simp only [Nat.add_zero] at hst
  have e1 : splice cs (off + n * i.size) news = cs.take (off + n * i.size) ++ news ++ cs.drop (off + n * i.size + news.length) := by simp [splice]
  rw [e1]
  simp [Builtin.append_, run_underlying ht, sizeOf, typeInfo, hi, Builtin.lenOf, hroom, hfc, Addr.add_lit, hst]

theorem wpList_app_room_k (hgd : o.guard = none) (s x : Operand) (t : TypeId) (ho : o.op = .call { callee := .builtin .append, args := #[s, x], argTypes := #[t, t] })
    (e : TypeId) (i : TypeInfo) (k : Nat) (ht : P.underlying t = some (.slice e)) (hi : P.info? e = some i) (hsz : i.size = k)
    (g off n cap : Nat) (hs : a.eval s = .slice (some ⟨g, off, none⟩) n cap) (ad : Addr) (m c : Nat) (hx : a.eval x = .slice (some ad) m c)
    (cs news : List Value) (hB : Blk w g e cs) (hl : news.length = m * k) (hnews : ∀ j u, news[j]? = some u → w.cell? (ad.add j) = some u) (h1 : ∀ u ∈ news, u.oneCell' = true) (hroom : n + m ≤ cap) (hfit : off + n * k + m * k ≤ cs.length)
    (h : ∀ w', Blk w' g e (splice cs (off + n * k) news) → w.grownBy w' (some g) → w'.heap.size = w.heap.size → wpList P ops Q rest (a.put o.dst (.slice (some ⟨g, off, none⟩) (n + m) cap)) w') : wpList P ops Q (o :: rest) a w := by
  refine wpList_plain hgd fun K hK => ?_
  have hr := run_app_room_k (P := P) w t o.type e i k ht hi hsz g off n cap cs hB ad m c news hl hnews h1 hroom hfit
  unfold Oper.wp execOp
  simp only [ho, resolve, invoke, builtin, Sem.run_bind, Sem.run_pure, Result.andThen_ok, List.map_toArray, List.map_cons, List.map_nil, hs, hx, hr]
  exact hK _ _ (h _ (hB.all _) ⟨rfl, rfl, rfl, by simp, fun k _ hk => setRow_other w g k _ (fun e => hk (by rw [e]))⟩ (by simp))

/-- clear of the end of a row known whole. -/
theorem run_clear_k (t ty e : TypeId) (z : Value) (k : Nat) (ht : P.underlying t = some (.slice e)) (hv : ∀ w, (zeroValue e).run P w = .ok z w) (hz : z.cells.size = k) (h1 : ∀ u ∈ z.cells, u.oneCell' = true) (g off n c : Nat) (cs : List Value) (hB : Blk w g e cs) (hfit : off + n * k ≤ cs.length) (hk : 0 < k) :
    (Builtin.clear_ #[t] ty #[.slice (some ⟨g, off, none⟩) n c]).run P w = .ok (.tuple #[]) (w.setRow g (splice cs off (Builtin.zeroCells z.cells n).toList).toArray) := by
  have hzl : (Builtin.zeroCells z.cells n).toList.length = n * k := by simp [size_zeroCells, hz]
  cases n with
  | zero =>
    have e0 : (Builtin.zeroCells z.cells 0).toList = [] := List.eq_nil_of_length_eq_zero (by simpa using hzl)
    have e1 : splice cs off [] = cs := by simp [splice]
    have hs := setRow_self w g cs.toArray e (0, 0) hB
    rw [e0, e1, hs]
    simp [Builtin.clear_, run_underlying ht]
  | succ m =>
    have h1' : ∀ u ∈ (Builtin.zeroCells z.cells (m + 1)).toList, u.oneCell' = true := by
      intro u hu
      simp only [Builtin.zeroCells, Array.mem_toList_iff, Array.mem_map] at hu
      obtain ⟨j, hj, rfl⟩ := hu
      have hlt : j % z.cells.size < z.cells.size := Nat.mod_lt _ (by omega)
      rw [getElem!_pos z.cells _ hlt]
      exact h1 _ (Array.getElem_mem hlt)
    have hst := run_storeCells_at P g off e (Builtin.zeroCells z.cells (m + 1)).toList 0 cs.toArray w hB (by rw [hzl]; simp; omega) h1'
    simp only [Nat.add_zero] at hst
    have e1 : splice cs off (Builtin.zeroCells z.cells (m + 1)).toList = cs.take off ++ (Builtin.zeroCells z.cells (m + 1)).toList ++ cs.drop (off + (Builtin.zeroCells z.cells (m + 1)).toList.length) := by simp [splice]
    rw [e1]
    simp [Builtin.clear_, run_underlying ht, hv, hst]

theorem wpList_clear_k (hgd : o.guard = none) (s : Operand) (t : TypeId) (ho : o.op = .call { callee := .builtin .clear, args := #[s], argTypes := #[t] })
    (e : TypeId) (z : Value) (k : Nat) (ht : P.underlying t = some (.slice e)) (hv : ∀ w, (zeroValue e).run P w = .ok z w) (hz : z.cells.size = k) (h1 : ∀ u ∈ z.cells, u.oneCell' = true)
    (g off n c : Nat) (hs : a.eval s = .slice (some ⟨g, off, none⟩) n c) (cs : List Value) (hB : Blk w g e cs) (hfit : off + n * k ≤ cs.length) (hk : 0 < k)
    (h : ∀ w' zs, zs.length = n * k → Blk w' g e (splice cs off zs) → w.grownBy w' (some g) → w'.heap.size = w.heap.size → wpList P ops Q rest (a.put o.dst (.tuple #[])) w') : wpList P ops Q (o :: rest) a w := by
  refine wpList_plain hgd fun K hK => ?_
  have hr := run_clear_k (P := P) w t o.type e z k ht hv hz h1 g off n c cs hB hfit hk
  unfold Oper.wp execOp
  simp only [ho, resolve, invoke, builtin, Sem.run_bind, Sem.run_pure, Result.andThen_ok, List.map_toArray, List.map_cons, List.map_nil, hs, hr]
  exact hK _ _ (h _ _ (by simp [size_zeroCells, hz]) (hB.all _) ⟨rfl, rfl, rfl, by simp, fun k _ hk => setRow_other w g k _ (fun e => hk (by rw [e]))⟩ (by simp))
theorem halt_clear (s : Operand) (t : TypeId) (_ho : o.op = .call { callee := .builtin .clear, args := #[s], argTypes := #[t] }) (h : Hid (wpList P ops Q (o :: rest) a w)) : wpList P ops Q (o :: rest) a w := h
end
end Go.Proofs.Ybulkdfze
