import Derived.Test.YbulkdfzePass
namespace Go.Proofs.Ybulkdfze
open Go Go.RowKit Go.Lib Go.Shelf

/-- The kept copies: n messages [s, c]. -/
def Copies (w : World) (K : Nat) (c : Int) (n : Nat) : Prop :=
  ∃ HS hc PB BF bc hs ps bs, Blk w K 55 [.slice (some ⟨HS, 0, none⟩) n hc, .int .i64 0, .slice (some ⟨PB, 0, none⟩) 1 1, .int .u64 0] ∧ Blk w HS 49 hs ∧ Blk w PB 52 (.slice (some ⟨BF, 0, none⟩) (2 * n) bc :: ps) ∧ Blk w BF 5 bs ∧ n ≤ hc ∧ 2 * n ≤ bc ∧
    (∀ i, i < n → hs[i * 4]? = some (.int .u64 (i + 1)) ∧ hs[i * 4 + 1]? = some (.int .u64 0) ∧ hs[i * 4 + 2]? = some (.int .i64 (2 * i : Nat)) ∧ hs[i * 4 + 3]? = some (.int .i64 2)) ∧
    (∀ i, i < n → bs[2 * i]? = some (.int .u8 (i + 1)) ∧ bs[2 * i + 1]? = some (.int .u8 c))

theorem Copies.of {w w1 : World} {K : Nat} {c : Int} {n : Nat} (h : Copies w K c n) (hk : ∀ g e cs, e = 55 ∨ e = 49 ∨ e = 52 ∨ e = 5 → Blk w g e cs → Blk w1 g e cs) : Copies w1 K c n := by
  obtain ⟨HS, hc, PB, BF, bc, hs, ps, bs, h1, h2, h3, h4, h5⟩ := h
  exact ⟨HS, hc, PB, BF, bc, hs, ps, bs, hk _ _ _ (by simp) h1, hk _ _ _ (by simp) h2, hk _ _ _ (by simp) h3, hk _ _ _ (by simp) h4, h5⟩

theorem KS.typed {base SB : Nat} {w w1 : World} (h : KS base SB 71 w w1) {v : Value} (hS : Blk w SB 65 [v]) {g : Nat} {e : TypeId} {cs : List Value} (hb : Blk w g e cs) (h1 : e ≠ 65) (h2 : e ≠ 71) : Blk w1 g e cs :=
  h.blk hb (fun hg => by subst hg; have := hb.symm.trans hS; cases this; exact h1 rfl) (.inr h2)

/-- What is sent on of n copies. -/
def pick (low high : Int) (n : Nat) : List Nat := (List.range n).filter fun (i : Nat) => decide (low < (i : Int) + 1) && decide ((i : Int) + 1 ≤ high)
def msgs (view sender member : ByteArray) (c low high : Int) (n : Nat) : List (ByteArray × List Value) :=
  (pick low high n).map fun (i : Nat) => (member, fwd view sender ((i : Int) + 1) [.int .u8 ((i : Int) + 1), .int .u8 c])
theorem msgs_succ (view sender member : ByteArray) (c low high : Int) (n : Nat) : msgs view sender member c low high (n + 1) = msgs view sender member c low high n ++
    if low < (n : Int) + 1 ∧ (n : Int) + 1 ≤ high then [(member, fwd view sender ((n : Int) + 1) [.int .u8 ((n : Int) + 1), .int .u8 c])] else [] := by
  unfold msgs pick
  rw [List.range_succ, List.filter_append, List.map_append]
  congr 1
  by_cases h : low < (n : Int) + 1 ∧ (n : Int) + 1 ≤ high <;> simp [h]
theorem msgs_len (view sender member : ByteArray) (c low high : Int) (n : Nat) : (msgs view sender member c low high n).length ≤ n := by
  unfold msgs pick
  rw [List.length_map]
  exact Nat.le_trans (List.length_filter_le _ _) (by simp)

set_option maxRecDepth 20000 in
set_option maxHeartbeats 1000000 in
/-- '(*copies).between' with pass's function. -/
theorem between_any (E SB base bE bS bV bM K n : Nat) (c low high : Int) (L : List (ByteArray × List Value)) (sender view member : ByteArray) (w : World)
    (HS : Sends base w SB L) (hb : base ≤ w.heap.size) (hSB : SB < base) (hn : L.length + n ≤ 1000) (hn2 : n ≤ 100)
    (hbE : Blk w bE 87 [.pointer (some ⟨E, 0, none⟩)]) (hbS : Blk w bS 9 [.string sender]) (hbV : Blk w bV 9 [.string view]) (hbM : Blk w bM 9 [.string member])
    (hE : w.cell? ⟨E, 6, none⟩ = some (.func (.func 4) #[] #[.pointer (some ⟨SB, 0, none⟩)])) (hEb : E < base) (hES : E ≠ SB)
    (hs : sender.size < 10) (hvw : view.size < 10) (HC : Copies w K c n) :
    Calls Yba.prog 17 #[.pointer (some ⟨K, 0, none⟩), .int .u64 low, .int .u64 high, .func (.func 18) #[] #[.pointer (some ⟨bE, 0, none⟩), .pointer (some ⟨bS, 0, none⟩), .pointer (some ⟨bV, 0, none⟩), .pointer (some ⟨bM, 0, none⟩)]] w
      fun e w' => e = .returned (.tuple #[]) ∧ Sends base w' SB (L ++ msgs view sender member c low high n) ∧ KS base SB 71 w w' := by
  obtain ⟨sv, hSv⟩ : ∃ v, Blk w SB 65 [v] := by
    obtain ⟨v, _, h, _⟩ := HS
    exact ⟨v, h⟩
  obtain ⟨HR, hc, PB, BF, bc, hs', ps, bs, b1, b2, b3, b4, l1, l2, e1, e2⟩ := HC
  have q0 := b1.cell 0
  have q1 := b1.cell 1
  simp only [List.getElem?_cons_zero, List.getElem?_cons_succ] at q0 q1
  have lK := b1.lt
  have E1 := unhalt e1
  have E2 := unhalt e2
  clear e1 e2
  go_enter Yba.func17, Yba.ntmps17
  go_wp2
  go_quiet (fail)
  have kd : KS base SB 71 w (w.drewN nq) := KS.of_keep ((Keep.refl [] w).drewN nq)
  have sd : Sends base (w.drewN nq) SB (L ++ msgs view sender member c low high 0) := by
    have := sends_keep HS ((Keep.refl [] w).drewN nq)
    simpa [msgs, pick] using this
  go_wp2
  go_loopw [20] (fun v wr => ∃ j : Nat, j ≤ n ∧ v = .int .i64 j ∧ KS base SB 71 w wr ∧ Sends base wr SB (L ++ msgs view sender member c low high j)) (fun v _ => n - (intOf v).toNat)
  case atStart => exact ⟨0, Nat.zero_le _, rfl, kd, sd⟩
  case round =>
    obtain ⟨j, hj, rfl, kr, sr⟩ := hrel
    by_cases hjn : j < n
    · obtain ⟨x0, x1, x2, x3⟩ := E1.out j hjn
      have bh : Blk wr HR 49 hs' := kr.typed hSv b2 (by decide) (by decide)
      have y0 := bh.cell (j * 4)
      have y1 := bh.cell (j * 4 + 1)
      have y2 := bh.cell (j * 4 + 2)
      have y3 := bh.cell (j * 4 + 3)
      rw [x0] at y0
      rw [x1] at y1
      rw [x2] at y2
      rw [x3] at y3
      clear x0 x1 x2 x3
      have HM := unhalt (msgs_succ view sender member c low high j)
      by_cases hlo : low < (j : Int) + 1
      · by_cases hhi : (j : Int) + 1 ≤ high
        · obtain ⟨z0, z1⟩ := E2.out j hjn
          have Z0 := unhalt z0
          have Z1 := unhalt z1
          clear z0 z1
          go_wp2
          have hB0 := Blk.new' wr #[.int .u64 ((j : Int) + 1), .int .u64 0, .int .i64 (2 * (j : Int)), .int .i64 2] 49 wr.heap.size rfl
          have ka : Keep [] wr (wr.alloc (.cells #[.int .u64 ((j : Int) + 1), .int .u64 0, .int .i64 (2 * (j : Int)), .int .i64 2] 49)) := (Keep.refl [] wr).alloc _
          generalize (wr.alloc (.cells #[.int .u64 ((j : Int) + 1), .int .u64 0, .int .i64 (2 * (j : Int)), .int .i64 2] 49)) = wa at hB0 ka ⊢
          generalize wr.heap.size = H at hB0 ⊢
          have kwa : KS base SB 71 w wa := kr.trans (KS.of_keep ka)
          have swa : Sends base wa SB (L ++ msgs view sender member c low high j) := sends_keep sr ka
          clear bh y0 y1 y2 y3 sd kd
          have SK : ∀ w', Keep [] wa w' → (w'.cell? ⟨H, 0, none⟩ = some (.int .u64 ((j : Int) + 1)) ∧ w'.cell? ⟨H, 1, none⟩ = some (.int .u64 0) ∧ w'.cell? ⟨H, 2, none⟩ = some (.int .i64 (2 * (j : Int))) ∧ w'.cell? ⟨H, 3, none⟩ = some (.int .i64 2)) := fun w' k => by
            have hb := k.blk hB0 (by simp)
            exact ⟨by simpa using hb.cell 0, by simpa using hb.cell 1, by simpa using hb.cell 2, by simpa using hb.cell 3⟩
          have hSa : ∃ v, Blk wa SB 65 [v] := by
            obtain ⟨v, _, h, _⟩ := swa
            exact ⟨v, h⟩
          have SKS : ∀ w', KS base SB 71 wa w' → (w'.cell? ⟨H, 0, none⟩ = some (.int .u64 ((j : Int) + 1)) ∧ w'.cell? ⟨H, 1, none⟩ = some (.int .u64 0) ∧ w'.cell? ⟨H, 2, none⟩ = some (.int .i64 (2 * (j : Int))) ∧ w'.cell? ⟨H, 3, none⟩ = some (.int .i64 2)) := fun w' k => by
            obtain ⟨v, hv⟩ := hSa
            have hb := k.typed hv hB0 (by decide) (by decide)
            exact ⟨by simpa using hb.cell 0, by simpa using hb.cell 1, by simpa using hb.cell 2, by simpa using hb.cell 3⟩
          have em : ((2 * j : Nat) : Int) = 2 * (j : Int) := by omega
          have up : ∀ {w'}, Keep [] wa w' → ∀ {g e cs}, Blk w g e cs → e ≠ 65 → e ≠ 71 → Blk w' g e cs := fun k _ _ _ hb h1 h2 => k.blk (kwa.typed hSv hb h1 h2) (by simp)
          have HMSG := unhalt (fun (w1 : World) (k : Keep [] wa w1) => by
            have h := (msg_any K PB BF (2 * n) bc ((j : Int) + 1) (2 * j) w1 (by simpa using (up k b1 (by decide) (by decide)).cell 2) (by simpa using (up k b1 (by decide) (by decide)).cell 3) (by simpa using (up k b3 (by decide) (by decide)).cell 0) (by omega) l2 (by omega)).mono
              (R' := fun e w' => e = .returned (.slice (some ⟨BF, 2 * j, none⟩) 2 2) ∧ Keep [] wa w' ∧ w'.cell? ⟨H, 0, none⟩ = some (.int .u64 ((j : Int) + 1)) ∧ w'.cell? ⟨H, 1, none⟩ = some (.int .u64 0) ∧ w'.cell? ⟨H, 2, none⟩ = some (.int .i64 (2 * (j : Int))) ∧ w'.cell? ⟨H, 3, none⟩ = some (.int .i64 2)) (by
                rintro e w' ⟨rfl, k2⟩
                have kk := k.trans k2 (by simp)
                exact ⟨rfl, kk, SK w' kk⟩)
            rw [em] at h
            exact h)
          have HP := unhalt (fun (w1 : World) (k : Keep [] wa w1) =>
            (pass1_any E SB base bE bS bV bM (L ++ msgs view sender member c low high j) sender view member ((j : Int) + 1) ⟨BF, 2 * j, none⟩ [.int .u8 ((j : Int) + 1), .int .u8 c] w1 (sends_keep swa k) (Nat.le_trans hb (kwa.trans (KS.of_keep k)).size) hSB
              (by have := msgs_len view sender member c low high j; rw [List.length_append]; omega)
              (up k hbE (by decide) (by decide)) (up k hbS (by decide) (by decide)) (up k hbV (by decide) (by decide)) (up k hbM (by decide) (by decide))
              (k.cell (kwa.cell hE hES hEb) (by simp)) hEb hES hs hvw (by omega) (by omega)
              (Rd.of_blk (up k b4 (by decide) (by decide)) (2 * j) _ (by
                intro i u hi
                match i, hi with
                | 0, hi => simp at hi; subst hi; exact Z0.out
                | 1, hi => simp at hi; subst hi; exact Z1.out)) rfl (up k b4 (by decide) (by decide)).lt (by simp [Value.oneCell'])).mono
              (R' := fun e w' => e = .returned (.tuple #[]) ∧ (Sends base w' SB (L ++ msgs view sender member c low high (j + 1)) ∧ KS base SB 71 w w') ∧ w'.cell? ⟨H, 0, none⟩ = some (.int .u64 ((j : Int) + 1)) ∧ w'.cell? ⟨H, 1, none⟩ = some (.int .u64 0) ∧ w'.cell? ⟨H, 2, none⟩ = some (.int .i64 (2 * (j : Int))) ∧ w'.cell? ⟨H, 3, none⟩ = some (.int .i64 2)) (by
                rintro e w' ⟨rfl, h2, h3⟩
                have k3 := (KS.of_keep k).trans h3
                refine ⟨rfl, ⟨?_, kwa.trans k3⟩, SKS w' k3⟩
                rw [HM.out, if_pos ⟨hlo, hhi⟩, ← List.append_assoc]
                exact h2))
          have hkd := (Keep.refl [] wa).drew
          have S0 := SK wa.drew hkd
          clear SKS up em
          go_region_held3 (fun w' => w'.cell? ⟨H, 0, none⟩ = some (.int .u64 ((j : Int) + 1)) ∧ w'.cell? ⟨H, 1, none⟩ = some (.int .u64 0) ∧ w'.cell? ⟨H, 2, none⟩ = some (.int .i64 (2 * (j : Int))) ∧ w'.cell? ⟨H, 3, none⟩ = some (.int .i64 2)) (first | assumption) (first | (go_at_call 21; refine (HMSG.out _ hkd).mono ?_; rintro e w1 ⟨rfl, k1, hS1⟩) | (go_at_call 18; refine (HP.out _ k1).mono ?_; rintro e w3 ⟨rfl, hfin, hS3⟩))
          have HH := unhalt hfin
          clear hfin HMSG HP
          go_wp2
          exact ⟨⟨j + 1, by omega, by go_num, HH.out.2, HH.out.1⟩, by simp [intOf]; omega⟩
        · have e1 : msgs view sender member c low high (j + 1) = msgs view sender member c low high j := by rw [HM.out, if_neg (fun h => hhi h.2), List.append_nil]
          have E3 := unhalt e1
          clear e1
          go_wp2
          exact ⟨⟨j + 1, by omega, by go_num, kr.trans (KS.of_keep ((Keep.refl [] wr).alloc _)), by rw [E3.out]; exact sends_keep sr ((Keep.refl [] wr).alloc _)⟩, by simp [intOf]; omega⟩
      · have e1 : msgs view sender member c low high (j + 1) = msgs view sender member c low high j := by rw [HM.out, if_neg (fun h => hlo h.1), List.append_nil]
        have E3 := unhalt e1
        clear e1
        go_wp2
        exact ⟨⟨j + 1, by omega, by go_num, kr.trans (KS.of_keep ((Keep.refl [] wr).alloc _)), by rw [E3.out]; exact sends_keep sr ((Keep.refl [] wr).alloc _)⟩, by simp [intOf]; omega⟩
    · have ej : j = n := by omega
      subst ej
      go_wp2
      exact bodyPost_end (v := .tuple #[]) (by simp [results, Yba.results17, go_sem]) rfl ⟨rfl, sr, kr⟩

set_option maxRecDepth 20000 in
/-- '(*Endpoint).pass', there are copies. -/
theorem pass_any (E SB base K n : Nat) (c low high : Int) (L : List (ByteArray × List Value)) (sender view member : ByteArray) (w : World)
    (HS : Sends base w SB L) (hb : base ≤ w.heap.size) (hSB : SB < base) (hn : L.length + n ≤ 1000) (hn2 : n ≤ 100)
    (hE : w.cell? ⟨E, 6, none⟩ = some (.func (.func 4) #[] #[.pointer (some ⟨SB, 0, none⟩)])) (hEb : E < base) (hES : E ≠ SB)
    (hs : sender.size < 10) (hvw : view.size < 10) (HC : Copies w K c n) :
    Calls Yba.prog 15 #[.pointer (some ⟨E, 0, none⟩), .string member, .string sender, .string view, .pointer (some ⟨K, 0, none⟩), .int .u64 low, .int .u64 high] w
      fun e w' => e = .returned (.tuple #[]) ∧ Sends base w' SB (L ++ msgs view sender member c low high n) ∧ KS base SB 71 w w' := by
  have HCH := unhalt HC
  clear HC
  have hb0 := Blk.new w #[.pointer (some ⟨E, 0, none⟩)] 87
  have k0 : Keep [] w (w.alloc (.cells #[.pointer (some ⟨E, 0, none⟩)] 87)) := (Keep.refl [] w).alloc _
  have z0 : (w.alloc (.cells #[.pointer (some ⟨E, 0, none⟩)] 87)).heap.size = w.heap.size + 1 := by simp
  have HB := unhalt (fun (w4 : World) (h4 : w4 = (((w.alloc (.cells #[.pointer (some ⟨E, 0, none⟩)] 87)).alloc (.cells #[.string member] 9)).alloc (.cells #[.string sender] 9)).alloc (.cells #[.string view] 9)) => by
    have k4 : Keep [] w w4 := by rw [h4]; exact ((((Keep.refl [] w).alloc _).alloc _).alloc _).alloc _
    refine (between_any E SB base w.heap.size (w.heap.size + 1 + 1) (w.heap.size + 1 + 1 + 1) (w.heap.size + 1) K n c low high L sender view member w4 (sends_keep HS k4) (Nat.le_trans hb k4.size) hSB hn hn2 ?_ ?_ ?_ ?_ (k4.cell hE (by simp)) hEb hES hs hvw (HCH.out.of fun g e cs _ h => k4.blk h (by simp))).mono
      (R' := fun e w' => e = .returned (.tuple #[]) ∧ Sends base w' SB (L ++ msgs view sender member c low high n) ∧ KS base SB 71 w w') ?_
    · rw [h4]; exact (((Blk.new w _ _).alloc _).alloc _).alloc _
    · rw [h4]; exact ((Blk.new' _ _ _ _ (by simp)).alloc _)
    · rw [h4]; exact (Blk.new' _ _ _ _ (by simp))
    · rw [h4]; exact (((Blk.new' _ _ _ _ (by simp)).alloc _).alloc _)
    · rintro e w' ⟨rfl, h1, h2⟩
      exact ⟨rfl, h1, (KS.of_keep k4).trans h2⟩)
  clear hb0 k0 z0
  go_enter Yba.func15, Yba.ntmps15
  go_wp2_with (go_at_call 17; refine halt ?_)
  refine unhalt ?_
  refine (HB.out _ rfl).mono ?_
  rintro e w' ⟨rfl, hfin⟩
  have HH := unhalt hfin
  clear hfin HB
  go_wp2
  exact bodyPost_end (v := .tuple #[]) (by simp [results, Yba.results15, go_sem]) rfl ⟨rfl, HH.out⟩

/-- '(*Endpoint).pass', there are none. -/
theorem pass_nil (E SB base : Nat) (low high : Int) (L : List (ByteArray × List Value)) (sender view member : ByteArray) (w : World) (HS : Sends base w SB L) :
    Calls Yba.prog 15 #[.pointer (some ⟨E, 0, none⟩), .string member, .string sender, .string view, .pointer none, .int .u64 low, .int .u64 high] w
      fun e w' => e = .returned (.tuple #[]) ∧ Sends base w' SB L ∧ KS base SB 71 w w' := by
  go_enter Yba.func15, Yba.ntmps15
  go_wp2
  have k4 := ((((Keep.refl [] w).alloc (Obj.cells #[.pointer (some ⟨E, 0, none⟩)] 87)).alloc (Obj.cells #[.string member] 9)).alloc (Obj.cells #[.string sender] 9)).alloc (Obj.cells #[.string view] 9)
  exact bodyPost_ret (v := .tuple #[]) (by simp [results, Yba.results15, go_sem]) rfl ⟨rfl, sends_keep HS k4, KS.of_keep k4⟩
end Go.Proofs.Ybulkdfze
