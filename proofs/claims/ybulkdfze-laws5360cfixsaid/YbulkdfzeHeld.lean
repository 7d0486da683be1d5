import Derived.Test.YbulkdfzeRows5
namespace Go.Proofs.Ybulkdfze
open Go Go.RowKit Go.Lib Go.Shelf

/-- A received message: from, number, where its two bytes lie, the bytes. -/
abbrev Rcv := ByteArray × Int × Addr × Int × Int
def rcells (view : ByteArray) (p : Rcv) : List Value := [.string p.1, .string view, .int .u64 p.2.1, .slice (some p.2.2.1) 2 2, .int .i64 0]
def flat (view : ByteArray) (hs : List Rcv) : List Value := hs.flatMap (rcells view)
theorem flat_len (view : ByteArray) : ∀ hs, (flat view hs).length = hs.length * 5
  | [] => rfl
  | p :: r => by
    have := flat_len view r
    simp only [flat, List.flatMap_cons, List.length_append, List.length_cons] at this ⊢
    rw [this]
    simp [rcells]
    omega
theorem flat_append (view : ByteArray) (xs ys : List Rcv) : flat view (xs ++ ys) = flat view xs ++ flat view ys := by simp [flat]
theorem flat_get (view : ByteArray) {p : Rcv} : ∀ {hs : List Rcv} {j : Nat}, hs[j]? = some p → ∀ i, i < 5 → (flat view hs)[j * 5 + i]? = (rcells view p)[i]?
  | [], _, h, _, _ => by cases h
  | q :: r, 0, h, i, hi => by
    simp at h
    subst h
    simp only [flat, List.flatMap_cons, Nat.zero_mul, Nat.zero_add]
    rw [List.getElem?_append_left (by simp [rcells]; omega)]
  | q :: r, j + 1, h, i, hi => by
    have := flat_get (hs := r) (j := j) view (by simpa using h) i hi
    simp only [flat, List.flatMap_cons] at this ⊢
    rw [List.getElem?_append_right (by simp [rcells]; omega)]
    have e : (j + 1) * 5 + i - (rcells view q).length = j * 5 + i := by simp [rcells]; omega
    rw [e]; exact this
theorem info64 : (Yba.prog.info? 64).map (fun i => (i.zero.isSome, i.size, i.bytes)) = some (true, 5, 72) := by kernel_rfl
def zero64 : Value := .agg #[.string ⟨#[]⟩, .string ⟨#[]⟩, .int .u64 0, .slice none 0 0, .int .i64 0]
theorem zeroV64 (w : World) : (zeroValue 64).run Yba.prog w = .ok zero64 w := by
  have h : (Yba.prog.info? 64).bind (·.zero) = some zero64 := by kernel_rfl
  obtain ⟨i, hi, hz⟩ := Option.bind_eq_some_iff.1 h
  simp [zeroValue, typeInfo, hi, hz]
theorem zeroV31 (w : World) : (zeroValue 31).run Yba.prog w = .ok (.int .u64 0) w := by
  have h : (Yba.prog.info? 31).bind (·.zero) = some (.int .u64 0) := by kernel_rfl
  obtain ⟨i, hi, hz⟩ := Option.bind_eq_some_iff.1 h
  simp [zeroValue, typeInfo, hi, hz]

def gone (cutv : ByteArray → Int) (hs : List Rcv) : List Rcv := hs.filter fun p => decide (p.2.1 ≤ cutv p.1)
def stay (cutv : ByteArray → Int) (hs : List Rcv) : List Rcv := hs.filter fun p => !decide (p.2.1 ≤ cutv p.1)
def dcells (view : ByteArray) (p : Rcv) : ByteArray × ByteArray × Int × List Value := (view, p.1, p.2.1, [.int .u8 p.2.2.2.1, .int .u8 p.2.2.2.2])
theorem stay_len (cutv : ByteArray → Int) (hs : List Rcv) : (stay cutv hs).length ≤ hs.length := List.length_filter_le _ _
theorem gone_len (cutv : ByteArray → Int) (hs : List Rcv) : (gone cutv hs).length ≤ hs.length := List.length_filter_le _ _
theorem take_succ_of {hs : List Rcv} {j : Nat} {p : Rcv} (h : hs[j]? = some p) : hs.take (j + 1) = hs.take j ++ [p] := by
  rw [List.take_add_one, h]; rfl

theorem set_self {l : List Value} {i : Nat} {v : Value} (h : l[i]? = some v) : l.set i v = l := by
  obtain ⟨hl, rfl⟩ := List.getElem?_eq_some_iff.1 h
  exact List.set_getElem_self hl

/-- What stands at the head of a round of deliverHeld. -/
def HI (E DB HR base : Nat) (view : ByteArray) (ec : List Value) (hs : List Rcv) (cutv : ByteArray → Int) (w : World) (j : Nat) (wr : World) : Prop :=
  ∃ bo bv, Blk wr E 109 (ec.set 50 bv) ∧ Buf base wr bo bv ∧ Dels base wr DB bo ((gone cutv (hs.take j)).map (dcells view)) ∧ KB base [E, DB, HR] w wr ∧
    Blk wr HR 64 (flat view (stay cutv (hs.take j)) ++ (flat view hs).drop ((stay cutv (hs.take j)).length * 5))

theorem HI.alloc {E DB HR base : Nat} {view : ByteArray} {ec : List Value} {hs : List Rcv} {cutv : ByteArray → Int} {w : World} {j : Nat} {wr : World} (h : HI E DB HR base view ec hs cutv w j wr) (o : Obj) : HI E DB HR base view ec hs cutv w j (wr.alloc o) := by
  obtain ⟨bo, bv, h1, h2, h3, h4, h5⟩ := h
  have k : Keep [] wr (wr.alloc o) := (Keep.refl [] wr).alloc o
  refine ⟨bo, bv, h1.alloc o, ?_, dels_keep h3 k, h4.trans (KB.of_keep k (by simp)), h5.alloc o⟩
  rcases h2 with h | ⟨g, L, cs, a1, a2, a3, a4, a5, a6⟩
  · exact .inl h
  · exact .inr ⟨g, L, cs, a1, a2, a3, a4, a5.alloc o, a6⟩

set_option maxRecDepth 20000 in
set_option maxHeartbeats 2000000 in
/-- '(*Endpoint).deliverHeld'. -/
theorem dh_any (E DB HR CB n : Nat) (view : ByteArray) (ec : List Value) (hs : List Rcv) (kvs : List (ByteArray × Value)) (cutv : ByteArray → Int) (w : World)
    (hn : hs.length = n) (hn2 : n ≤ 1024) (hE : Blk w E 109 ec) (hH : Blk w HR 64 (flat view hs)) (hD : Blk w DB 66 [.slice none 0 0]) (hM : Mp w CB kvs)
    (e7 : ec[7]? = some (.func (.func 7) #[] #[.pointer (some ⟨DB, 0, none⟩)])) (e12 : ec[12]? = some (.string view)) (e42 : ec[42]? = some (.slice (some ⟨HR, 0, none⟩) n n))
    (e49 : ec[49]? = some (.int .i64 0)) (e50 : ec[50]? = some (.slice none 0 0))
    (hcut : ∀ p ∈ hs, (look p.1 kvs).getD (.int .u64 0) = .int .u64 (cutv p.1))
    (hmsg : ∀ p ∈ hs, Rd w (some p.2.2.1) [.int .u8 p.2.2.2.1, .int .u8 p.2.2.2.2] ∧ p.2.2.1.block < w.heap.size ∧ p.2.2.1.block ∉ [E, DB, HR]) :
    Calls Yba.prog 13 #[.pointer (some ⟨E, 0, none⟩), .map (some CB)] w fun e w' => e = .returned (.tuple #[]) ∧
      ∃ bo bv junk, Blk w' E 109 ((ec.set 50 bv).set 42 (.slice (some ⟨HR, 0, none⟩) (stay cutv hs).length n)) ∧ Blk w' HR 64 (flat view (stay cutv hs) ++ junk) ∧
        Dels w.heap.size w' DB bo ((gone cutv hs).map (dcells view)) ∧ Keep [E, DB, HR] w w' := by
  obtain ⟨base, hbase⟩ : ∃ b, b = w.heap.size := ⟨_, rfl⟩
  rw [← hbase]
  have hEb : E < base := by rw [hbase]; exact hE.lt
  have hDb : DB < base := by rw [hbase]; exact hD.lt
  have hHb : HR < base := by rw [hbase]; exact hH.lt
  have hCb : CB < base := by rw [hbase]; exact (Array.getElem?_eq_some_iff.1 hM).1
  have hCne : CB ∉ [E, DB, HR] := by
    intro h
    have hm : ∀ {g e cs}, Blk w g e cs → CB ≠ g := fun hb h => by subst h; have := hb.symm.trans hM; cases this
    simp at h
    rcases h with h | h | h
    · exact hm hE h
    · exact hm hD h
    · exact hm hH h
  have hEH : E ≠ HR := hE.ne hH (by decide)
  have hED : E ≠ DB := hE.ne hD (by decide)
  have hDH : DB ≠ HR := hD.ne hH (by decide)
  have c42 := (hE.cell 42).trans e42
  have lE := hE.lt
  have HINV : HI E DB HR base view ec hs cutv w 0 w := by
    refine ⟨none, .slice none 0 0, ?_, .inl ⟨rfl, rfl⟩, ⟨_, [], hD, World.ownsRow_nil .., rfl⟩, KB.refl _ _ _, ?_⟩
    · rw [set_self e50]; exact hE
    · simpa [stay, flat] using hH
  clear hE hH hD
  obtain ⟨i0, hi0, hy⟩ := Option.map_eq_some_iff.1 info64
  obtain ⟨hy0, hz1, hy2⟩ : i0.zero.isSome = true ∧ i0.size = 5 ∧ i0.bytes = 72 := by simpa using hy
  clear hy hy0 hy2
  go_enter Yba.func13, Yba.ntmps13
  go_wp2
  go_loopw [4, 17] (fun u v wr => ∃ j : Nat, j ≤ n ∧ v = .int .i64 j ∧ u = .slice (some ⟨HR, 0, none⟩) (stay cutv (hs.take j)).length n ∧ HI E DB HR base view ec hs cutv w j wr) (fun _ v _ => n - (intOf v).toNat)
  case atStart => exact ⟨0, Nat.zero_le _, rfl, by simp [stay], HINV⟩
  case round =>
    obtain ⟨j, hj, rfl, rfl, hi⟩ := hrel
    clear HINV
    by_cases hjn : j < n
    · obtain ⟨⟨fr, sq, ad, x, y⟩, hp⟩ : ∃ p, hs[j]? = some p := ⟨hs[j]'(by omega), List.getElem?_eq_getElem (by omega)⟩
      have hpm : (fr, sq, ad, x, y) ∈ hs := List.mem_of_getElem? hp
      obtain ⟨R, hR⟩ : ∃ R, R = stay cutv (hs.take j) := ⟨_, rfl⟩
      have hRl : R.length ≤ j := by rw [hR]; exact Nat.le_trans (stay_len _ _) (by simp; omega)
      obtain ⟨bo, bv, i1, i2, i3, i4, i5⟩ := id hi
      rw [← hR] at i5
      have get : ∀ i, i < 5 → wr.cell? ⟨HR, j * 5 + i, none⟩ = (rcells view (fr, sq, ad, x, y))[i]? := fun i hi => by
        rw [i5.cell, List.getElem?_append_right (by rw [flat_len]; omega), flat_len, List.getElem?_drop]
        have e : R.length * 5 + (j * 5 + i - R.length * 5) = j * 5 + i := by omega
        rw [e]
        exact flat_get view hp i hi
      have y0 := get 0 (by omega)
      have y1 := get 1 (by omega)
      have y2 := get 2 (by omega)
      have y3 := get 3 (by omega)
      have y4 := get 4 (by omega)
      simp only [rcells, List.getElem?_cons_zero, List.getElem?_cons_succ, Nat.add_zero] at y0 y1 y2 y3 y4
      clear get
      have hMr : Mp wr CB kvs := i4.heap hM hCb hCne
      have hMa : Mp (wr.alloc (.cells #[.string fr, .string view, .int .u64 sq, .slice (some ad) 2 2, .int .i64 0] 64)) CB kvs := (Below.heap_alloc wr _ CB (Array.getElem?_eq_some_iff.1 hMr).1).trans hMr
      have hlk : (Instr.lookup 37 (.map (some CB)) (.string fr) false).run Yba.prog (wr.alloc (.cells #[.string fr, .string view, .int .u64 sq, .slice (some ad) 2 2, .int .i64 0] 64)) = .ok (.int .u64 (cutv fr)) (wr.alloc (.cells #[.string fr, .string view, .int .u64 sq, .slice (some ad) 2 2, .int .i64 0] 64)) := by
        have h := run_look Yba.prog _ 37 9 31 CB kvs fr (.int .u64 0) false Yba.underlying37 Yba.underlying9 zeroV31 hMa
        rw [hcut _ hpm] at h
        simpa using h
      have HMS := unhalt (hmsg _ hpm)
      have HT := unhalt (take_succ_of hp)
      have hia := hi.alloc (.cells #[.string fr, .string view, .int .u64 sq, .slice (some ad) 2 2, .int .i64 0] 64)
      by_cases hc : sq ≤ cutv fr
      · have eg : gone cutv (hs.take (j + 1)) = gone cutv (hs.take j) ++ [(fr, sq, ad, x, y)] := by rw [HT.out]; simp [gone, hc]
        have es : stay cutv (hs.take (j + 1)) = R := by rw [HT.out, hR]; simp [stay, hc]
        have EG := unhalt eg
        have ES := unhalt es
        clear hMr hMa eg es hp hpm i1 i2 i3 i4 i5
        have HRH := unhalt hR
        rw [← hR]
        clear hR
        go_wp2_with (go_at_call 16; refine halt ?_)
        refine unhalt ?_
        clear hlk y0 y1 y2 y3 y4
        generalize (wr.alloc (.cells #[.string fr, .string view, .int .u64 sq, .slice (some ad) 2 2, .int .i64 0] 64)) = wa at hia ⊢
        obtain ⟨bo, bv, i1, i2, i3, i4, i5⟩ := hia
        refine (dr_any E DB base bo bv (ec.set 50 bv) _ ad x y sq fr view wa i3 (by rw [hbase]; exact i4.size) hEb hDb i1 (by rw [List.getElem?_set_ne (by decide)]; exact e7) (by rw [List.getElem?_set_ne (by decide)]; exact e12) (by rw [List.getElem?_set_ne (by decide)]; exact e49) (by rw [List.getElem?_set_self (by have := (List.getElem?_eq_some_iff.1 e50).1; omega)]) i2 ?_ ?_ ?_).mono ?_
        · rw [List.length_map]; exact Nat.le_trans (gone_len _ _) (by simp; omega)
        · exact i4.rd HMS.out.1 (by intro a ha; cases ha; exact ⟨by rw [hbase]; exact HMS.out.2.1, HMS.out.2.2⟩)
        · intro h; exact HMS.out.2.2 (by simp [h])
        rintro e w3 ⟨rfl, bo3, bv3, r1, r2, r3, r4⟩
        have hfin : HI E DB HR base view ec hs cutv w (j + 1) w3 := by
          refine ⟨bo3, bv3, by simpa [List.set_set] using r1, r2, ?_, i4.trans ⟨r4.os, r4.tape, r4.output, r4.size, fun k h1 h2 h3 => r4.block k h1 h2 (fun h => h3 (by simp at h ⊢; omega))⟩, ?_⟩
          · rw [EG.out, List.map_append]; exact r3
          · rw [ES.out]
            rw [← HRH.out] at i5
            exact r4.blk i5 hHb (by simp; omega)
        have HF := unhalt hfin
        clear hfin r1 r2 r3 r4 i1 i2 i3 i4 i5 hi
        go_wp2
        exact ⟨⟨j + 1, by omega, by go_num, by rw [ES.out], HF.out⟩, by simp [intOf]; omega⟩
      · have eg : gone cutv (hs.take (j + 1)) = gone cutv (hs.take j) := by rw [HT.out]; simp [gone, hc]
        have es : stay cutv (hs.take (j + 1)) = R ++ [(fr, sq, ad, x, y)] := by rw [HT.out, hR]; simp [stay, hc]
        have EG := unhalt eg
        have ES := unhalt es
        clear hMr hMa eg es hp hpm i1 i2 i3 i4 i5
        have HRH := unhalt hR
        rw [← hR]
        clear hR
        go_wp2_with (at_builtin; refine halt ?_)
        refine unhalt ?_
        have hib := hia.alloc (.cells #[.string fr, .string view, .int .u64 sq, .slice (some ad) 2 2, .int .i64 0] 64)
        have hnb := Blk.new' (wr.alloc (.cells #[.string fr, .string view, .int .u64 sq, .slice (some ad) 2 2, .int .i64 0] 64)) #[.string fr, .string view, .int .u64 sq, .slice (some ad) 2 2, .int .i64 0] 64 (wr.heap.size + 1) (by simp)
        have hgt : HR ≠ wr.heap.size + 1 := by have := hi.choose_spec.choose_spec.2.2.2.1.size; omega
        clear hlk y0 y1 y2 y3 y4 hia
        generalize ((wr.alloc (.cells #[.string fr, .string view, .int .u64 sq, .slice (some ad) 2 2, .int .i64 0] 64)).alloc (.cells #[.string fr, .string view, .int .u64 sq, .slice (some ad) 2 2, .int .i64 0] 64)) = wb at hib hnb ⊢
        obtain ⟨bo, bv, i1, i2, i3, i4, i5⟩ := hib
        rw [← HRH.out] at i5
        refine wpList_app_room_k _ rfl (.tmp 39) (.tmp 41) 58 rfl 64 i0 5 Yba.underlying58 hi0 hz1 HR 0 R.length n rfl ⟨wr.heap.size + 1, 0, none⟩ 1 1 rfl _ (rcells view (fr, sq, ad, x, y)) i5 (by simp [rcells]) ?_ (by simp [rcells, Value.oneCell']) (by omega) ?_ ?_
        · intro k u hk
          rw [Addr.add_lit, hnb.cell (0 + k), Nat.zero_add]; exact hk
        · simp only [List.length_append, flat_len, List.length_drop]; omega
        intro w3 r1 r2 r3
        have hfin : HI E DB HR base view ec hs cutv w (j + 1) w3 := by
          have up : ∀ {g e cs}, Blk wb g e cs → e ≠ 64 → Blk w3 g e cs := fun hb he => hb.kept r2 (fun h => by cases h; exact absurd rfl (hb.ne i5 he))
          have k3 : Keep [HR] wb w3 := (Keep.refl [HR] wb).grown r2 (by intro k hk _; cases hk; simp)
          refine ⟨bo, bv, up i1 (by decide), ?_, ?_, i4.trans (KB.of_keep k3 (by simp)), ?_⟩
          · rcases i2 with h | ⟨g, L, cs, a1, a2, a3, a4, a5, a6⟩
            · exact .inl h
            · exact .inr ⟨g, L, cs, a1, a2, a3, a4, up a5 (by decide), a6⟩
          · obtain ⟨v, xs, d1, d2, d3⟩ := i3
            rw [EG.out]
            exact ⟨v, xs, up d1 (by decide), owns_keep d2 k3 (fun g hg => by simp; omega), DEl.of (fun g cs hb hn => ⟨up hb (by decide), hn⟩) d3⟩
          · rw [ES.out]
            refine r1.cast ?_
            rw [flat_append]
            have e1 : flat view [(fr, sq, ad, x, y)] = rcells view (fr, sq, ad, x, y) := by simp [flat]
            have e2 : (rcells view (fr, sq, ad, x, y)).length = 5 := rfl
            have e3 : R.length * 5 = (flat view R).length := (flat_len view R).symm
            simp only [splice, Nat.zero_add, e1, e2, e3, List.take_left', List.drop_append, List.drop_drop, List.length_append, List.length_singleton]
            rw [List.drop_eq_nil_of_le (by omega)]
            have e4 : (R.length + 1) * 5 = (flat view R).length + ((flat view R).length + 5 - (flat view R).length) := by rw [flat_len]; omega
            rw [e4, List.nil_append, List.append_assoc]
        have HF := unhalt hfin
        clear hfin r1 r2 r3 i1 i2 i3 i4 i5 hi
        go_wp2
        exact ⟨⟨j + 1, by omega, by go_num, by rw [ES.out]; simp, HF.out⟩, by simp [intOf]; omega⟩
    · obtain rfl : j = n := by omega
      have htk : hs.take j = hs := by rw [← hn]; exact List.take_length
      have HTK := unhalt htk
      obtain ⟨bo, bv, i1, i2, i3, i4, i5⟩ := hi
      rw [htk] at i3 i5 ⊢
      clear htk
      obtain ⟨R, hR⟩ : ∃ R, R = stay cutv hs := ⟨_, rfl⟩
      have hRl : R.length ≤ j := by rw [hR]; exact Nat.le_trans (stay_len _ _) (by omega)
      rw [← hR] at i5 ⊢
      have d42 := i1.cell 42
      rw [List.getElem?_set_ne (by decide), e42] at d42
      have HRS := unhalt hR
      clear hR
      have c421 : (ec.set 50 bv)[42]? = some (.slice (some ⟨HR, 0, none⟩) j j) := by rw [List.getElem?_set_ne (by decide)]; exact e42
      have fin : ∀ w9, Blk w9 E 109 (ec.set 50 bv) → (∃ junk, Blk w9 HR 64 (flat view R ++ junk)) → Keep [HR] wr w9 → Hid (∃ bo bv junk, Blk (w9.setCell ⟨E, 42, none⟩ (.slice (some ⟨HR, 0, none⟩) R.length j)) E 109 ((ec.set 50 bv).set 42 (.slice (some ⟨HR, 0, none⟩) (stay cutv hs).length j)) ∧ Blk (w9.setCell ⟨E, 42, none⟩ (.slice (some ⟨HR, 0, none⟩) R.length j)) HR 64 (flat view (stay cutv hs) ++ junk) ∧
          Dels base (w9.setCell ⟨E, 42, none⟩ (.slice (some ⟨HR, 0, none⟩) R.length j)) DB bo ((gone cutv hs).map (dcells view)) ∧ Keep [E, DB, HR] w (w9.setCell ⟨E, 42, none⟩ (.slice (some ⟨HR, 0, none⟩) R.length j))) := fun w9 h1 ⟨junk, h2⟩ k3 => by
        have k4 : Keep [E, HR] wr (w9.setCell ⟨E, 42, none⟩ (.slice (some ⟨HR, 0, none⟩) R.length j)) := (k3.mono (by simp)).setCell _ _ (by simp)
        refine ⟨bo, bv, junk, by rw [← HRS.out]; exact h1.set 42 _, by rw [← HRS.out]; exact h2.set_other _ _ (fun h => hEH h.symm), ?_, ?_⟩
        · obtain ⟨v, xs, d1, d2, d3⟩ := i3
          exact ⟨v, xs, k4.blk d1 (by simp; omega), owns_keep d2 k4 (fun g hg => by simp; omega), DEl.of (fun g cs hb hn => ⟨k4.blk hb (by simp [hb.ne i1 (by decide), hb.ne i5 (by decide)]), hn⟩) d3⟩
        · have kk := i4.trans (KB.of_keep (base := base) (S := [E, DB, HR]) k4 (fun k hk _ => by simp at hk ⊢; omega))
          exact kk.keep (by omega)
      have FIN := unhalt fin
      clear fin
      by_cases hrj : R.length = j
      · have hcl : ∀ ty, (Builtin.clear_ #[58] ty #[.slice (some ⟨HR, 0, none⟩) 0 0]).run Yba.prog wr = .ok (.tuple #[]) wr := fun ty => by
          simp [Builtin.clear_, run_underlying Yba.underlying58]
        have HF := FIN.out wr i1 ⟨_, i5⟩ (Keep.refl _ _)
        have f42 := i1.free 42
        have lE2 := i1.lt
        clear FIN i1 i2 i3 i4 i5 hn2
        rw [hrj] at HF ⊢
        clear hrj hRl
        go_wp2
        exact bodyPost_end (v := .tuple #[]) (by simp [results, Yba.results13, go_sem]) rfl ⟨rfl, HF.out⟩
      · obtain ⟨w9, hcl, zs, lz, r1, r2⟩ : ∃ w9, (∀ ty, (Builtin.clear_ #[58] ty #[.slice (some ⟨HR, R.length * 5, none⟩) (j - R.length) (j - R.length)]).run Yba.prog wr = .ok (.tuple #[]) w9) ∧ ∃ zs : List Value, zs.length = (j - R.length) * 5 ∧ Blk w9 HR 64 (splice (flat view R ++ (flat view hs).drop (R.length * 5)) (R.length * 5) zs) ∧ wr.grownBy w9 (some HR) :=
          ⟨_, fun ty => run_clear_k (P := Yba.prog) wr 58 ty 64 zero64 5 Yba.underlying58 zeroV64 rfl (by decide) HR (R.length * 5) (j - R.length) (j - R.length) _ i5 (by simp only [List.length_append, flat_len, List.length_drop]; omega) (by decide), _, by simp [size_zeroCells, zero64, Value.cells], i5.all _, ⟨rfl, rfl, rfl, by simp, fun k _ hk => setRow_other wr HR k _ (fun e => hk (by rw [e]))⟩⟩
        have hE9 : Blk w9 E 109 (ec.set 50 bv) := i1.kept r2 (by intro h; cases h; exact hEH rfl)
        have f42 := hE9.free 42
        have d43 := (hE9.cell 42).trans c421
        have lE2 := i1.lt
        have lE9 := hE9.lt
        have hlt : R.length < j := by omega
        have hsub : ((j : Int) - (R.length : Int)).toNat = j - R.length := by omega
        have HF := FIN.out w9 hE9 ⟨zs ++ List.drop ((flat view R).length + zs.length) (flat view R ++ List.drop (flat view R).length (flat view hs)), r1.cast (by rw [splice, show R.length * 5 = (flat view R).length from (flat_len view R).symm, List.take_left' rfl])⟩ ((Keep.refl [HR] wr).grown r2 (by intro k hk _; cases hk; simp))
        clear FIN i1 i2 i3 i4 i5 hE9 r1 r2 hn2
        go_wp2
        exact bodyPost_end (v := .tuple #[]) (by simp [results, Yba.results13, go_sem]) rfl ⟨rfl, HF.out⟩
end Go.Proofs.Ybulkdfze
