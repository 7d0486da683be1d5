import Derived.Test.YbulkdfzeFrame
namespace Go.Proofs.Ybulkdfze
open Go Go.RowKit Go.Lib Go.Shelf
theorem info71 : (Yba.prog.info? 71).map (fun i => (i.zero.isSome, i.size, i.bytes)) = some (true, 3, 56) := by kernel_rfl
theorem info74 : (Yba.prog.info? 74).map (fun i => (i.zero.isSome, i.size, i.bytes)) = some (true, 4, 64) := by kernel_rfl
theorem zero71 : (Yba.prog.info? 71).bind (fun i => i.zero.map (fun z => z.cells.size)) = some 3 := by kernel_rfl
theorem zero74 : (Yba.prog.info? 74).bind (fun i => i.zero.map (fun z => z.cells.size)) = some 4 := by kernel_rfl

section
variable {P : Program} {ops : Array Oper} {Q : Exit → Act → World → Prop} {o : Oper} {a : Act} (w : World)
theorem step_append_own {K : Act → World → Prop} {E : Prop} (hgd : o.guard = none) (s x : Operand) (t : TypeId)
    (ho : o.op = .call { callee := .builtin .append, args := #[s, x], argTypes := #[t, t] })
    (base : Nat) (e : TypeId) (i : TypeInfo) (z : Value) (size bytes : Nat) (ht : P.underlying t = some (.slice e)) (hi : P.info? e = some i) (hz : i.zero = some z)
    (hsize : i.size = size) (hby : i.bytes = bytes) (hzs : z.cells.size = size) (hsz : 0 < size)
    (v : Value) (n : Nat) (xs : List Value) (hs : a.eval s = v) (hown : w.ownsRow base e size v n xs)
    (ad : Addr) (m c : Nat) (news : List Value) (hx : a.eval x = .slice (some ad) m c) (hl : news.length = m * size) (hnews : ∀ j u, news[j]? = some u → w.cell? (ad.add j) = some u) (h1 : ∀ u ∈ news, u.oneCell' = true)
    (h63 : n + m ≤ maxLen) (hbytes : (n + m) * bytes ≤ 140737488355328) (hbase : base ≤ w.heap.size)
    (h : ∀ v' w', w'.ownsRow base e size v' (n + m) (xs ++ news) → w.grownBy w' v.ownBlock → K (a.put o.dst v') w') :
    if Region.wanted o (yielded ops a.tmps) = true then Oper.wp P o a w K Q else E := by
  have hw : Region.wanted o (yielded ops a.tmps) = true := by simp [Region.wanted, hgd]
  rw [if_pos hw]
  exact wp_append_own w s x t ho base e i z size bytes ht hi hz hsize hby hzs hsz v n xs hs hown ad m c news hx hl hnews h1 h63 hbytes hbase fun v' w' h2 h3 _ => h v' w' h2 h3
end

theorem send_fin (SB base : Nat) (L : List (ByteArray × List Value)) (v : Value) (xs ps : List Value) (to : ByteArray) (w w2 w3 : World) (o : Obj) (g1 c1 g2 c2 pn : Nat) (d1 d2 : List Value) (v3 : Value)
    (hS : Blk w SB 65 [v]) (hown : w.ownsRow base 71 3 v L.length xs) (hE : SEl w xs L) (hSB : SB < base) (lp : ps.length = pn) (k : Keep [] w w2)
    (hB1 : Blk w2 g1 9 ([.string to] ++ d1)) (hB2 : Blk w2 g2 5 (ps ++ d2)) (hg3 : (w2.alloc o).grownBy w3 v.ownBlock)
    (hown3 : w3.ownsRow base 71 3 v3 (L.length + 1) (xs ++ [.int .u8 9, .slice (some ⟨g1, 0, none⟩) 1 c1, .slice (some ⟨g2, 0, none⟩) pn c2])) :
    Sends base (w3.setCell ⟨SB, 0, none⟩ v3) SB (L ++ [(to, ps)]) ∧ KS base SB 71 w (w3.setCell ⟨SB, 0, none⟩ v3) := by
  have kw : Keep [] w (w2.alloc o) := k.alloc o
  have hown' := owns_keep hown kw (by simp)
  have ks : KS base SB 71 w w3 := (KS.of_keep kw).trans (KS.grown hown' hg3)
  have ks2 : KS base SB 71 (w2.alloc o) w3 := KS.grown hown' hg3
  have hS3 : Blk w3 SB 65 [v] := (kw.blk hS (by simp)).kept hg3 (fun e => by have := (owns_lt hown' SB e.symm).1; omega)
  have k4 : Keep [SB] w3 (w3.setCell ⟨SB, 0, none⟩ v3) := (Keep.refl _ w3).setCell _ _ (by simp)
  have up : ∀ {g e cs}, Blk (w2.alloc o) g e cs → e ≠ 65 → e ≠ 71 → Blk (w3.setCell ⟨SB, 0, none⟩ v3) g e cs := fun {g e cs} hb h1 h2 => by
    have hgS : g ≠ SB := fun hg => by
      subst hg
      have := hb.symm.trans (kw.blk hS (by simp))
      cases this
      exact h1 rfl
    exact k4.blk (ks2.blk hb hgS (.inr h2)) (by simpa using hgS)
  refine ⟨⟨v3, _, hS3.set 0 v3, by simpa using owns_keep hown3 k4 (fun g hg => by simp; omega), SEl.append (M := [(to, ps)]) ?_ (SEl.of (fun g cs hb => ?_) (fun g cs hb => ?_) hE)⟩, ks.trans (KS.of_keepS k4)⟩
  · exact ⟨g1, c1, g2, c2, d1, d2, [], by rw [← lp], up (hB1.alloc _) (by decide) (by decide), up (hB2.alloc _) (by decide) (by decide), rfl⟩
  · exact up (kw.blk hb (by simp)) (by decide) (by decide)
  · exact up (kw.blk hb (by simp)) (by decide) (by decide)

set_option maxRecDepth 20000 in
/-- The law's 'Send'. -/
theorem send_any (SB base : Nat) (L : List (ByteArray × List Value)) (pa ta : Addr) (pc tc pn : Nat) (ps : List Value) (to : ByteArray) (w : World) (HS : Sends base w SB L) (hb : base ≤ w.heap.size) (hSB : SB < base)
    (hp : Rd w (some pa) ps) (lp : ps.length = pn) (hpn : pn ≤ 100) (hn : L.length ≤ 1000) (h1c : ∀ u ∈ ps, u.oneCell' = true) (ht : Rd w (some ta) [.string to]) :
    Calls Yba.prog 4 #[.int .u8 9, .slice (some pa) pn pc, .slice (some ta) 1 tc, .pointer (some ⟨SB, 0, none⟩)] w fun e w' => e = .returned (.tuple #[]) ∧ Sends base w' SB (L ++ [(to, ps)]) ∧ KS base SB 71 w w' := by
  obtain ⟨v, xs, hS, hown, hE⟩ := HS
  obtain ⟨n, hn'⟩ : ∃ n, n = L.length := ⟨_, rfl⟩
  have HF := unhalt (send_fin SB base L v xs ps to w)
  have HE := unhalt hE
  clear hE
  have HN := unhalt hn'
  have c0 := hS.cell 0
  have f0 := hS.free 0
  simp only [List.getElem?_cons_zero] at c0
  have HT := unhalt (clone_strings ta 1 tc _ w.drew (by omega) ht rfl (by simp [Value.oneCell']))
  have HP := unhalt (fun (w1 : World) (k1 : Keep [] w w1) => clone_bytes pa pn pc ps w1 (by omega) (k1.rd hp (by simp)) lp h1c)
  obtain ⟨i1, hi1, hy⟩ := Option.map_eq_some_iff.1 info71
  obtain ⟨hy0, hy1, hy2⟩ : i1.zero.isSome = true ∧ i1.size = 3 ∧ i1.bytes = 56 := by simpa using hy
  obtain ⟨zv, hzv⟩ := Option.isSome_iff_exists.1 hy0
  have hzs : zv.cells.size = 3 := by have := zero71; rw [hi1] at this; simpa [hzv] using this
  rw [← hn'] at hown hn
  clear hn'
  have OW : ∀ (w2 : World) {o : Obj}, Keep [] w w2 → (w2.alloc o).ownsRow base 71 3 v n xs := fun w2 o k => (owns_keep hown k (by simp)).alloc _
  have NEW : ∀ (w2 : World) (c : List Value), ∀ j u, c[j]? = some u → (w2.alloc (.cells c.toArray 71)).cell? ((⟨w2.heap.size, 0, none⟩ : Addr).add j) = some u := fun w2 c j u hj => by
    rw [Addr.add_lit, (Blk.new w2 c.toArray 71).cell (0 + j), Nat.zero_add]; exact hj
  have BB : ∀ (w2 : World) {o : Obj}, Keep [] w w2 → base ≤ (w2.alloc o).heap.size := fun w2 o k => by have := k.size; simp; omega
  have SBK : ∀ (w2 w3 : World) {o : Obj}, Keep [] w w2 → (w2.alloc o).grownBy w3 v.ownBlock → Blk w3 SB 65 [v] := fun w2 w3 o k hg => ((k.blk hS (by simp)).alloc o).kept hg (fun e => by have := (owns_lt hown SB e.symm).1; omega)
  clear hy hy0
  go_enter Yba.func4, Yba.ntmps4
  go_wp2
  go_region_law (first | (refine step_call _ (by rfl) 5 (.tmp 9) 29 (by rfl) _ (by rfl) (enters_of Yba.func5 (by kernel_rfl) rfl) _ HT.out ?_; rintro e w1 ⟨g1, cap1, rfl, hc1, hB1, hg1, k1⟩; refine ⟨_, rfl, ?_⟩; have q1 := k1.cell (a := ⟨SB, 0, none⟩) c0 (by simp)) | (refine step_call _ (by rfl) 6 (.tmp 11) 46 (by rfl) _ (by rfl) (enters_of Yba.func6 (by kernel_rfl) rfl) _ (HP.out _ ((Keep.refl [] w).drew.trans k1 (by simp))) ?_; rintro e w2 ⟨g2, cap2, rfl, hc2, hB2, hg2, k2⟩; refine ⟨_, rfl, ?_⟩; have q2 := k2.cell (a := ⟨SB, 0, none⟩) q1 (by simp); have l2 : SB < w2.heap.size := block_lt_of_cell q2) | (refine step_append_own _ (by rfl) (.tmp 7) (.tmp 14) 65 (by rfl) base 71 i1 zv 3 56 Yba.underlying65 hi1 hzv hy1 hy2 hzs (by decide) v n xs (by rfl) (OW w2 ((Keep.refl [] w).drew.trans k1 (by simp) |>.trans k2 (by simp))) ⟨w2.heap.size, 0, none⟩ 1 1 [.int .u8 9, .slice (some ⟨g1, 0, none⟩) 1 cap1, .slice (some ⟨g2, 0, none⟩) pn cap2] (by rfl) rfl (NEW w2 _) (by simp [Value.oneCell']) (by unfold maxLen; omega) (by omega) (BB w2 ((Keep.refl [] w).drew.trans k1 (by simp) |>.trans k2 (by simp))) ?_; intro v3 w3 hown3 hg3; obtain ⟨g3, cap3, rfl⟩ := ownsRow_succ hown3; have hb3 := SBK w2 w3 ((Keep.refl [] w).drew.trans k1 (by simp) |>.trans k2 (by simp)) hg3; have q3 := hb3.cell 0; have f3 := hb3.free 0; simp only [List.getElem?_cons_zero] at q3))
  all_goals
    have hN := HN.out
    have h1 := HF.out w2 w3 _ g1 cap1 g2 cap2 pn _ _ _ hS (by rw [← hN]; exact hown) HE.out hSB lp (((Keep.refl [] w).drew.trans k1 (by simp)).trans k2 (by simp)) (k2.blk hB1 (by simp)) hB2 hg3 (by rw [← hN]; exact hown3)
    have HH := unhalt h1
    clear h1 hN HF HE HN HT HP hown3 hg3 hb3 q3 f3 hB1 hB2 hown
    go_wp2
    exact bodyPost_end (v := .tuple #[]) (by simp [results, Yba.results4, go_sem]) rfl ⟨rfl, HH.out⟩

theorem del_fin (DB base : Nat) (bo : Option Nat) (L : List (ByteArray × ByteArray × Int × List Value)) (v : Value) (xs ps : List Value) (vw sd : ByteArray) (q : Int) (w w2 w3 : World) (o : Obj) (g2 c2 pn : Nat) (d2 : List Value) (v3 : Value)
    (hS : Blk w DB 66 [v]) (hown : w.ownsRow base 74 4 v L.length xs) (hE : DEl w bo xs L) (hSB : DB < base) (lp : ps.length = pn) (k : Keep [] w w2)
    (hB2 : Blk w2 g2 5 (ps ++ d2)) (hne : some g2 ≠ bo) (hg3 : (w2.alloc o).grownBy w3 v.ownBlock)
    (hown3 : w3.ownsRow base 74 4 v3 (L.length + 1) (xs ++ [.string vw, .string sd, .int .u64 q, .slice (some ⟨g2, 0, none⟩) pn c2])) :
    Dels base (w3.setCell ⟨DB, 0, none⟩ v3) DB bo (L ++ [(vw, sd, q, ps)]) ∧ KS base DB 74 w (w3.setCell ⟨DB, 0, none⟩ v3) := by
  have kw : Keep [] w (w2.alloc o) := k.alloc o
  have hown' := owns_keep hown kw (by simp)
  have ks : KS base DB 74 w w3 := (KS.of_keep kw).trans (KS.grown hown' hg3)
  have ks2 : KS base DB 74 (w2.alloc o) w3 := KS.grown hown' hg3
  have hS3 : Blk w3 DB 66 [v] := (kw.blk hS (by simp)).kept hg3 (fun e => by have := (owns_lt hown' DB e.symm).1; omega)
  have k4 : Keep [DB] w3 (w3.setCell ⟨DB, 0, none⟩ v3) := (Keep.refl _ w3).setCell _ _ (by simp)
  have up : ∀ {g e cs}, Blk (w2.alloc o) g e cs → e ≠ 66 → e ≠ 74 → Blk (w3.setCell ⟨DB, 0, none⟩ v3) g e cs := fun {g e cs} hb h1 h2 => by
    have hgS : g ≠ DB := fun hg => by
      subst hg
      have := hb.symm.trans (kw.blk hS (by simp))
      cases this
      exact h1 rfl
    exact k4.blk (ks2.blk hb hgS (.inr h2)) (by simpa using hgS)
  refine ⟨⟨v3, _, hS3.set 0 v3, by simpa using owns_keep hown3 k4 (fun g hg => by simp; omega), DEl.append (M := [(vw, sd, q, ps)]) ?_ (DEl.of (fun g cs hb hn => ⟨?_, hn⟩) hE)⟩, ks.trans (KS.of_keepS k4)⟩
  · exact ⟨g2, c2, d2, [], by rw [← lp], hne, up (hB2.alloc _) (by decide) (by decide), rfl⟩
  · exact up (kw.blk hb (by simp)) (by decide) (by decide)

set_option maxRecDepth 20000 in
/-- The law's 'Deliver'. -/
theorem del_any (DB base : Nat) (bo : Option Nat) (L : List (ByteArray × ByteArray × Int × List Value)) (pa : Addr) (pc pn : Nat) (ps : List Value) (vw sd : ByteArray) (q : Int) (w : World) (HS : Dels base w DB bo L) (hb : base ≤ w.heap.size) (hSB : DB < base)
    (hbo : ∀ g, bo = some g → g < w.heap.size) (hp : Rd w (some pa) ps) (lp : ps.length = pn) (hpn : pn ≤ 100) (hn : L.length ≤ 2000) (h1c : ∀ u ∈ ps, u.oneCell' = true) :
    Calls Yba.prog 7 #[.string vw, .string sd, .int .u64 q, .slice (some pa) pn pc, .pointer (some ⟨DB, 0, none⟩)] w fun e w' => e = .returned (.tuple #[]) ∧ Dels base w' DB bo (L ++ [(vw, sd, q, ps)]) ∧ KS base DB 74 w w' := by
  obtain ⟨v, xs, hS, hown, hE⟩ := HS
  obtain ⟨n, hn'⟩ : ∃ n, n = L.length := ⟨_, rfl⟩
  have HF := unhalt (del_fin DB base bo L v xs ps vw sd q w)
  have HE := unhalt hE
  have HBO := unhalt hbo
  clear hE hbo
  have HN := unhalt hn'
  have c0 := hS.cell 0
  have f0 := hS.free 0
  simp only [List.getElem?_cons_zero] at c0
  have HP := unhalt (clone_bytes pa pn pc ps w.drew (by omega) hp lp h1c)
  obtain ⟨i1, hi1, hy⟩ := Option.map_eq_some_iff.1 info74
  obtain ⟨hy0, hy1, hy2⟩ : i1.zero.isSome = true ∧ i1.size = 4 ∧ i1.bytes = 64 := by simpa using hy
  obtain ⟨zv, hzv⟩ := Option.isSome_iff_exists.1 hy0
  have hzs : zv.cells.size = 4 := by have := zero74; rw [hi1] at this; simpa [hzv] using this
  rw [← hn'] at hown hn
  clear hn'
  have OW : ∀ (w2 : World) {o : Obj}, Keep [] w w2 → (w2.alloc o).ownsRow base 74 4 v n xs := fun w2 o k => (owns_keep hown k (by simp)).alloc _
  have NEW : ∀ (w2 : World) (c : List Value), ∀ j u, c[j]? = some u → (w2.alloc (.cells c.toArray 74)).cell? ((⟨w2.heap.size, 0, none⟩ : Addr).add j) = some u := fun w2 c j u hj => by
    rw [Addr.add_lit, (Blk.new w2 c.toArray 74).cell (0 + j), Nat.zero_add]; exact hj
  have BB : ∀ (w2 : World) {o : Obj}, Keep [] w w2 → base ≤ (w2.alloc o).heap.size := fun w2 o k => by have := k.size; simp; omega
  have SBK : ∀ (w2 w3 : World) {o : Obj}, Keep [] w w2 → (w2.alloc o).grownBy w3 v.ownBlock → Blk w3 DB 66 [v] := fun w2 w3 o k hg => ((k.blk hS (by simp)).alloc o).kept hg (fun e => by have := (owns_lt hown DB e.symm).1; omega)
  clear hy hy0
  go_enter Yba.func7, Yba.ntmps7
  go_wp2
  go_region_law (first | (refine step_call _ (by rfl) 6 (.tmp 13) 46 (by rfl) _ (by rfl) (enters_of Yba.func6 (by kernel_rfl) rfl) _ HP.out ?_; rintro e w2 ⟨g2, cap2, rfl, hc2, hB2, hg2, k2⟩; refine ⟨_, rfl, ?_⟩; have q2 := k2.cell (a := ⟨DB, 0, none⟩) c0 (by simp); have l2 : DB < w2.heap.size := block_lt_of_cell q2) | (refine step_append_own _ (by rfl) (.tmp 9) (.tmp 16) 66 (by rfl) base 74 i1 zv 4 64 Yba.underlying66 hi1 hzv hy1 hy2 hzs (by decide) v n xs (by rfl) (OW w2 ((Keep.refl [] w).drew.trans k2 (by simp))) ⟨w2.heap.size, 0, none⟩ 1 1 [.string vw, .string sd, .int .u64 q, .slice (some ⟨g2, 0, none⟩) pn cap2] (by rfl) rfl (NEW w2 _) (by simp [Value.oneCell']) (by unfold maxLen; omega) (by omega) (BB w2 ((Keep.refl [] w).drew.trans k2 (by simp))) ?_; intro v3 w3 hown3 hg3; obtain ⟨g3, cap3, rfl⟩ := ownsRow_succ hown3; have hb3 := SBK w2 w3 ((Keep.refl [] w).drew.trans k2 (by simp)) hg3; have q3 := hb3.cell 0; have f3 := hb3.free 0; simp only [List.getElem?_cons_zero] at q3))
  all_goals
    have hN := HN.out
    have hne : some g2 ≠ bo := fun e => by have h1 := HBO.out g2 e.symm; have h2 : w.heap.size ≤ g2 := hg2; omega
    have h1 := HF.out w2 w3 _ g2 cap2 pn _ _ hS (by rw [← hN]; exact hown) HE.out hSB lp ((Keep.refl [] w).drew.trans k2 (by simp)) hB2 hne hg3 (by rw [← hN]; exact hown3)
    have HH := unhalt h1
    clear h1 hN HF HE HN HP hown3 hg3 hb3 q3 f3 hB2 hown hne
    go_wp2
    exact bodyPost_end (v := .tuple #[]) (by simp [results, Yba.results7, go_sem]) rfl ⟨rfl, HH.out⟩
end Go.Proofs.Ybulkdfze
