import Derived.Test.YbulkdfzeHeld
import Derived.Deep.CutBlock
namespace Go.Proofs.Ybulkdfze
open Go Go.RowKit Go.Lib Go.Shelf
open Go.ChangeMaps (setBlock)

theorem next_step (P : Program) (w : World) (ty : TypeId) (r b : Nat) (kvs : List (ByteArray × Value)) (seen : Array Nat) (hM : Mp w b kvs) (hI : It w r b kvs.length seen) :
    ((∀ i, i < kvs.length → i ∈ seen) ∧ (Instr.next (.pointer (some ⟨r, 0, none⟩)) false ty).run P w = .ok (.tuple #[.bool false]) w) ∨
    ∃ i p w2, kvs[i]? = some p ∧ i ∉ seen ∧ (Instr.next (.pointer (some ⟨r, 0, none⟩)) false ty).run P w = .ok (.tuple #[.bool true, .string p.1, p.2]) w2 ∧
      (Instr.entry (.pointer (some ⟨r, 0, none⟩))).run P w2 = .ok (.tuple #[.string p.1, p.2]) w2 ∧ It w2 r b kvs.length (seen.push i) ∧ Keep [r] w w2 ∧ w2.heap.size = w.heap.size := by
  rcases run_next_mp P w ty r b kvs seen hM hI with h | ⟨i, p, hi, hn, w1, hw, h1⟩
  · exact .inl h
  · refine .inr ⟨i, p, _, hi, hn, h1, ?_⟩
    have hlt : r < w.heap.size := (Array.getElem?_eq_some_iff.1 hI).1
    have hh : w1.heap = w.heap := by rcases hw with rfl | rfl <;> rfl
    have hrb : r ≠ b := fun e => by subst e; have := hI.symm.trans hM; cases this
    have hI2 : It (setBlock w1 r (.mapIter (some b) kvs.length (seen.push i) kvs.length)) r b kvs.length (seen.push i) := by
      unfold It setBlock; simp [hh, hlt]
    have hM2 : Mp (setBlock w1 r (.mapIter (some b) kvs.length (seen.push i) kvs.length)) b kvs := by
      unfold Mp setBlock
      have hM' : w.heap[b]? = some (.map (ents 0 kvs).toArray kvs.length) := hM
      rw [Array.getElem?_setIfInBounds_ne hrb, hh]; exact hM'
    have hk : Keep [r] w (setBlock w1 r (.mapIter (some b) kvs.length (seen.push i) kvs.length)) := by
      have ho : w1.os = w.os ∧ w1.tape = w.tape ∧ w1.output = w.output := by rcases hw with rfl | rfl <;> exact ⟨rfl, rfl, rfl⟩
      refine ⟨ho.1, ho.2.1, ho.2.2, by simp [setBlock, hh], fun k hk hne => ?_⟩
      unfold setBlock
      simp only [List.mem_singleton] at hne
      rw [Array.getElem?_setIfInBounds_ne (fun e => hne e.symm), hh]
    refine ⟨?_, hI2, hk, by simp [setBlock, hh]⟩
    have := run_entry_at (P := P) _ r b kvs.length seen (ents 0 kvs).toArray kvs.length { key := .string p.1, val := p.2, born := 0 + i } (by simpa [It] using hI2) hM2 (by simpa using ents_mem (s := 0) hi) (by simp only; rw [ents_born]; exact List.nodup_range')
    simpa using this

/-- A report. -/
def repV (g0 vw : ByteArray) (LB : Nat) : Value := .agg #[.string ⟨#[76]⟩, .int .u64 1, .int .u64 1, .string g0, .int .u64 0, .int .u64 0, .string ⟨#[]⟩, .string ⟨#[]⟩, .int .u64 0, .int .u64 0, .slice none 0 0, .map none, .string vw, .map (some LB)]
def zero43 : Value := .agg #[.string ⟨#[]⟩, .int .u64 0, .int .u64 0, .string ⟨#[]⟩, .int .u64 0, .int .u64 0, .string ⟨#[]⟩, .string ⟨#[]⟩, .int .u64 0, .int .u64 0, .slice none 0 0, .map none, .string ⟨#[]⟩, .map none]
theorem zeroV43 (w : World) : (zeroValue 43).run Yba.prog w = .ok zero43 w := by
  have h : (Yba.prog.info? 43).bind (·.zero) = some zero43 := by kernel_rfl
  obtain ⟨i, hi, hz⟩ := Option.bind_eq_some_iff.1 h
  simp [zeroValue, typeInfo, hi, hz]
theorem info41 : (Yba.prog.info? 41).map (fun i => i.size) = some 2 := by kernel_rfl
theorem info37 : (Yba.prog.info? 37).map (fun i => i.size) = some 1 := by kernel_rfl
theorem field43 (g0 vw : ByteArray) (LB : Nat) (w : World) : (Instr.field 43 (repV g0 vw LB) 3).run Yba.prog w = .ok (.agg #[.string vw, .map (some LB)]) w := by
  obtain ⟨i, hi, hz⟩ := Option.map_eq_some_iff.1 info41
  simp [Instr.field, asAgg, part, repV, run_underlying Yba.underlying43, run_underlying Yba.underlying41, sizeOf, typeInfo, hi, hz, isAgg]
theorem field41 (vw : ByteArray) (LB : Nat) (w : World) : (Instr.field 41 (.agg #[.string vw, .map (some LB)]) 1).run Yba.prog w = .ok (.map (some LB)) w := by
  obtain ⟨i, hi, hz⟩ := Option.map_eq_some_iff.1 info37
  simp [Instr.field, asAgg, part, run_underlying Yba.underlying41, run_underlying Yba.underlying37, sizeOf, typeInfo, hi, hz, isAgg]
theorem zeroV50 (w : World) : (zeroValue 50).run Yba.prog w = .ok (.pointer none) w := by
  have h : (Yba.prog.info? 50).bind (·.zero) = some (.pointer none) := by kernel_rfl
  obtain ⟨i, hi, hz⟩ := Option.bind_eq_some_iff.1 h
  simp [zeroValue, typeInfo, hi, hz]

/-- What a sender's messages up to cut come to. -/
def fwdOf (view self : ByteArray) (ts : List ByteArray) (lastv : ByteArray → ByteArray → Int) (kc : ByteArray → Int) (kn : ByteArray → Nat) (s : ByteArray) (cut : Int) : List (ByteArray × List Value) :=
  if (ts.any fun t => decide (t = s)) = true then [] else if (ts.find? fun t => decide (lastv t s = cut)).getD ⟨#[]⟩ ≠ self then [] else ts.flatMap fun t => msgs view s t (kc s) (lastv t s) cut (kn s)

def cutKvs (cs : List (ByteArray × Int)) : List (ByteArray × Value) := cs.map fun p => (p.1, .int .u64 p.2)

/-- How many entries a walk has seen. -/
def seenOf (w : World) (r : Nat) : Nat := match w.heap[r]? with
  | some (.mapIter _ _ seen _) => seen.size
  | _ => 0

theorem seenOf_it {w : World} {r b n : Nat} {seen : Array Nat} (h : It w r b n seen) : seenOf w r = seen.size := by
  unfold seenOf
  have h' : w.heap[r]? = some (.mapIter (some b) n seen n) := h
  rw [h']

theorem nodup_le : ∀ (n : Nat) (l : List Nat), l.Nodup → (∀ i ∈ l, i < n) → l.length ≤ n
  | 0, l, _, h => by
    cases l with
    | nil => simp
    | cons a r => exact absurd (h a (by simp)) (by omega)
  | n + 1, l, hd, h => by
    have h1 := nodup_le n (l.erase n) (hd.erase n) (fun i hi => by
      have h2 := (List.Nodup.mem_erase_iff hd).1 hi
      have := h i h2.2
      have := h2.1
      omega)
    by_cases hm : n ∈ l
    · rw [List.length_erase_of_mem hm] at h1; omega
    · rw [List.erase_of_not_mem hm] at h1; omega

theorem sends_up {base SB : Nat} {w w1 : World} {L : List (ByteArray × List Value)} (h : Sends base w SB L) (hk : ∀ g e cs, Blk w g e cs → Blk w1 g e cs) : Sends base w1 SB L := by
  obtain ⟨v, xs, h1, h2, h3⟩ := h
  refine ⟨v, xs, hk _ _ _ h1, ⟨h2.1, orR h2.2 fun ⟨g', cap, cur, a1, a2, a3, a4⟩ => ⟨g', cap, cur, a1, a2, ?_, a4⟩⟩, SEl.of (fun g cs hb => hk _ _ _ hb) (fun g cs hb => hk _ _ _ hb) h3⟩
  have hb' : Blk w g' 71 cur.toList := by unfold Blk; simpa using a3
  simpa [Blk] using hk _ _ _ hb'

theorem flatMap_le {α β : Type} (f : α → List β) (b : Nat) : ∀ (l : List α), (∀ x ∈ l, (f x).length ≤ b) → (l.flatMap f).length ≤ l.length * b
  | [], _ => by simp
  | x :: r, h => by
    have h1 := h x (by simp)
    have h2 := flatMap_le f b r (fun y hy => h y (by simp [hy]))
    simp only [List.flatMap_cons, List.length_append, List.length_cons, Nat.succ_mul]
    omega

theorem fwdOf_len (view self : ByteArray) (ts : List ByteArray) (lastv : ByteArray → ByteArray → Int) (kc : ByteArray → Int) (kn : ByteArray → Nat) (s : ByteArray) (cut : Int) (h4 : ts.length ≤ 4) (h8 : kn s ≤ 8) : (fwdOf view self ts lastv kc kn s cut).length ≤ 32 := by
  unfold fwdOf
  split
  · simp
  · split
    · simp
    · have := flatMap_le (fun t => msgs view s t (kc s) (lastv t s) cut (kn s)) 8 ts (fun t _ => Nat.le_trans (msgs_len ..) h8)
      omega

theorem any_iff (ts : List ByteArray) (s : ByteArray) : (ts.any fun t => decide (t = s)) = true ↔ s ∈ ts := by
  rw [List.any_eq_true]
  exact ⟨fun ⟨t, h, e⟩ => by rw [decide_eq_true_iff] at e; exact e ▸ h, fun h => ⟨s, h, by simp⟩⟩

set_option maxRecDepth 20000 in
set_option maxHeartbeats 2000000 in
/-- '(*Endpoint).forward'. -/
theorem forward_any (E N SB CB RB KM tn tc : Nat) (tao : Option Addr) (self view : ByteArray) (ec nc : List Value) (ts : List ByteArray) (cs : List (ByteArray × Int)) (rkvs kkvs : List (ByteArray × Value))
    (lastv : ByteArray → ByteArray → Int) (kc : ByteArray → Int) (kn : ByteArray → Nat) (w : World)
    (hE : Blk w E 109 ec) (hN : Blk w N 86 nc) (hSB : Blk w SB 65 [.slice none 0 0]) (hMC : Mp w CB (cutKvs cs)) (hMR : Mp w RB rkvs) (hMK : Mp w KM kkvs)
    (e0 : ec[0]? = some (.string self)) (e6 : ec[6]? = some (.func (.func 4) #[] #[.pointer (some ⟨SB, 0, none⟩)])) (e12 : ec[12]? = some (.string view)) (e27 : ec[27]? = some (.map (some KM))) (e43 : ec[43]? = some (.pointer (some ⟨N, 0, none⟩)))
    (n5 : nc[5]? = some (.slice tao tn tc)) (n6 : nc[6]? = some (.map (some CB)))
    (hts : Rd w tao (ts.map Value.string)) (htS : ∀ x, tao = some x → x.block ≠ SB ∧ x.block < w.heap.size) (lts : ts.length = tn) (ltn : tn ≤ 4) (lcs : cs.length ≤ 4)
    (hrep : ∀ t ∈ ts, ∃ g0 vw LB lkvs, look t rkvs = some (repV g0 vw LB) ∧ Mp w LB lkvs ∧ ∀ p ∈ cs, (look p.1 lkvs).getD (.int .u64 0) = .int .u64 (lastv t p.1))
    (hkept : ∀ p ∈ cs, (look p.1 kkvs = none ∧ kn p.1 = 0) ∨ ∃ K, look p.1 kkvs = some (.pointer (some ⟨K, 0, none⟩)) ∧ Copies w K (kc p.1) (kn p.1))
    (hkn : ∀ p ∈ cs, kn p.1 ≤ 8) (hsz : ∀ p ∈ cs, p.1.size < 10) (hvw : view.size < 10) :
    Calls Yba.prog 12 #[.pointer (some ⟨E, 0, none⟩), .map (some RB)] w fun e w' => e = .returned (.tuple #[]) ∧
      ∃ seen : List Nat, seen.Nodup ∧ (∀ i, i ∈ seen ↔ i < cs.length) ∧ Sends w.heap.size w' SB (seen.flatMap fun i => match cs[i]? with | some p => fwdOf view self ts lastv kc kn p.1 p.2 | none => []) ∧ Keep [SB] w w' := by
  have c43 := (hE.cell 43).trans e43
  have c6 := (hN.cell 6).trans n6
  have lE := hE.lt
  have lN := hN.lt
  have hr := run_range_mp Yba.prog w 37 9 31 CB _ Yba.underlying37 hMC
  have lSB := hSB.lt
  have mpK : ∀ {w' b kvs}, Keep [SB] w w' → Mp w b kvs → Mp w' b kvs := fun {w' b kvs} k h => by
    have hb : b ≠ SB := fun e => by subst e; have := hSB.symm.trans h; cases this
    exact (k.block b (Array.getElem?_eq_some_iff.1 h).1 (by simpa using hb)).trans h
  have blK : ∀ {w' g e cs}, Keep [SB] w w' → Blk w g e cs → e ≠ 65 → Blk w' g e cs := fun k h he => k.blk h (by simpa using h.ne hSB he)
  have ckl : (cutKvs cs).length = cs.length := by simp [cutKvs]
  obtain ⟨F, hF⟩ : ∃ F : Nat → List (ByteArray × List Value), F = fun i => match cs[i]? with | some p => fwdOf view self ts lastv kc kn p.1 p.2 | none => [] := ⟨_, rfl⟩
  rw [← hF]
  rw [ckl] at hr
  have kA : Keep [SB] w (w.alloc (.mapIter (some CB) cs.length #[] cs.length)) := (Keep.refl _ w).alloc _
  have iA : It (w.alloc (.mapIter (some CB) cs.length #[] cs.length)) w.heap.size CB cs.length #[] := heap_alloc_new w _
  have sA : Sends (w.heap.size + 1) (w.alloc (.mapIter (some CB) cs.length #[] cs.length)) SB [] := ⟨_, [], hSB.alloc _, World.ownsRow_nil .., rfl⟩
  have zA : w.heap.size + 1 ≤ (w.alloc (.mapIter (some CB) cs.length #[] cs.length)).heap.size := by simp
  go_enter Yba.func12, Yba.ntmps12
  go_wp2
  generalize (w.alloc (.mapIter (some CB) cs.length #[] cs.length)) = wA at kA iA sA zA ⊢
  obtain ⟨r, hrr⟩ : ∃ r, r = w.heap.size := ⟨_, rfl⟩
  rw [← hrr] at iA sA zA ⊢
  have HRR := unhalt hrr
  have hrw : w.heap.size ≤ r := by omega
  have hrS : r ≠ SB := by omega
  clear hrr hr
  go_loopw [21] (fun _ wr => ∃ seen : Array Nat, It wr r CB cs.length seen ∧ seen.toList.Nodup ∧ (∀ i ∈ seen, i < cs.length) ∧ Keep [SB] w wr ∧ Sends (r + 1) wr SB (seen.toList.flatMap F) ∧ r + 1 ≤ wr.heap.size) (fun _ wr => cs.length - seenOf wr r)
  case atStart => exact ⟨#[], iA, by simp, by simp, kA, by simpa using sA, zA⟩
  case round =>
    obtain ⟨seen, I1, I2, I3, I4, I5, I6⟩ := hrel
    clear iA sA zA kA
    rcases next_step Yba.prog wr 0 r CB (cutKvs cs) seen (mpK I4 hMC) (by rw [ckl]; exact I1) with ⟨hall, hnx⟩ | ⟨i, p, w2, hi, hns, hnx, hen, J1, J2, J3⟩
    · go_wp2
      refine bodyPost_end (v := .tuple #[]) (by simp [results, Yba.results12, go_sem]) rfl ⟨rfl, seen.toList, I2, fun i => ⟨fun h => I3 i (by simpa using h), fun h => by simpa using hall i (by rw [ckl]; exact h)⟩, ?_, I4⟩
      obtain ⟨v, xs, h1, h2, h3⟩ := I5
      exact ⟨v, xs, h1, owns_mono h2 (by omega), h3⟩
    · obtain ⟨⟨sd, ct⟩, hq, rfl⟩ : ∃ q, cs[i]? = some q ∧ p = (q.1, .int .u64 q.2) := by
        unfold cutKvs at hi
        rw [List.getElem?_map, Option.map_eq_some_iff] at hi
        obtain ⟨q, h1, h2⟩ := hi
        exact ⟨q, h1, h2.symm⟩
      have hqm : (sd, ct) ∈ cs := List.mem_of_getElem? hq
      have hil : i < cs.length := (List.getElem?_eq_some_iff.1 hq).1
      have K2 : Keep [SB] w w2 := I4.trans J2 (fun k hk hlt => by simp at hk; omega)
      have S2 : Sends (r + 1) w2 SB (seen.toList.flatMap F) := sends_up I5 fun g e cs hb => J2.blk hb (by simp; intro h; subst h; have := hb.symm.trans I1; cases this)
      have Fi : F i = fwdOf view self ts lastv kc kn sd ct := by rw [hF]; simp [hq]
      rw [ckl] at J1
      have hnd : (seen.push i).toList.Nodup := by
        rw [Array.toList_push, List.nodup_append]
        exact ⟨I2, by simp, by intro a ha b hb; simp at hb; subst hb; intro h; subst h; exact hns (by simpa using ha)⟩
      have hal : ∀ k ∈ seen.push i, k < cs.length := fun k hk => by
        rcases Array.mem_push.1 hk with h | rfl
        · exact I3 k h
        · exact hil
      have hsl : (seen.push i).size ≤ cs.length := by
        have := nodup_le cs.length (seen.push i).toList hnd (fun k hk => hal k (by simpa using hk))
        simpa using this
      have hpl : (seen.push i).toList.flatMap F = seen.toList.flatMap F ++ F i := by simp
      have REL := unhalt (fun (w' : World) (h1 : It w' r CB cs.length (seen.push i)) (h2 : Keep [SB] w w') (h3 : Sends (r + 1) w' SB (seen.toList.flatMap F ++ F i)) =>
        (⟨⟨seen.push i, h1, hnd, hal, h2, by rw [hpl]; exact h3, by have := (Array.getElem?_eq_some_iff.1 h1).1; omega⟩, by rw [seenOf_it h1, seenOf_it I1]; simp at hsl ⊢; omega⟩ :
          (∃ seen : Array Nat, It w' r CB cs.length seen ∧ seen.toList.Nodup ∧ (∀ i ∈ seen, i < cs.length) ∧ Keep [SB] w w' ∧ Sends (r + 1) w' SB (seen.toList.flatMap F) ∧ r + 1 ≤ w'.heap.size) ∧ cs.length - seenOf w' r < cs.length - seenOf wr r))
      have d5 := ((blK K2 hN (by decide)).cell 5).trans n5
      have lN2 : N < w2.heap.size := block_lt_of_cell d5
      have HCT := unhalt (contains_str tao tn tc ts sd w2 (by omega) (K2.rd hts (fun x hx => by simpa using (htS x hx).1)) lts)
      have HHF := unhalt hF
      have HSL := unhalt hsl
      clear hF hpl hal hnd hsl I2 I3
      go_wp2_with (go_at_call 11; refine halt ?_)
      refine unhalt ?_
      refine HCT.out.mono ?_
      rintro e w3 ⟨rfl, b, rfl, hb⟩
      clear HCT
      cases b with
      | true =>
        have hin : sd ∈ ts := hb.1 rfl
        have F0 : F i = [] := by rw [Fi]; unfold fwdOf; rw [if_pos ((any_iff ts sd).2 hin)]
        have H0 := unhalt (REL.out w3 J1 K2 (by rw [F0, List.append_nil]; exact S2))
        clear REL F0 Fi
        go_wp2
        exact H0.out
      | false =>
        have hin : sd ∉ ts := fun h => by have := hb.2 h; cases this
        obtain ⟨fw, hfw⟩ : ∃ fw, fw = (ts.find? fun t => decide (lastv t sd = ct)).getD ⟨#[]⟩ := ⟨_, rfl⟩
        have HFW := unhalt hfw
        clear hfw
        have hM2 : Mp w3 RB rkvs := mpK K2 hMR
        have REP := unhalt (fun t (ht : t ∈ ts) => by
          obtain ⟨g0, vw, LB, lkvs, h1, h2, h3⟩ := hrep t ht
          exact (⟨g0, vw, LB, fun w' k => by
            have := run_look Yba.prog w' 34 9 43 RB rkvs t zero43 false Yba.underlying34 Yba.underlying9 zeroV43 (mpK k hMR)
            simpa [h1] using this, fun w' k => by
            have := run_look Yba.prog w' 37 9 31 LB lkvs sd (.int .u64 0) false Yba.underlying37 Yba.underlying9 zeroV31 (mpK k h2)
            rw [h3 _ hqm] at this
            simpa using this⟩ : ∃ g0 vw LB, (∀ w', Keep [SB] w w' → (Instr.lookup 34 (.map (some RB)) (.string t) false).run Yba.prog w' = .ok (repV g0 vw LB) w') ∧ (∀ w', Keep [SB] w w' → (Instr.lookup 37 (.map (some LB)) (.string sd) false).run Yba.prog w' = .ok (.int .u64 (lastv t sd)) w')))
        have RDT := unhalt (K2.rd hts (fun x hx => by simpa using (htS x hx).1))
        go_upto_block 2 with fail
        go_cut [7, 9] from 37 to 51 (fun f _ wc => f = .string fw ∧ wc = w3)
        case first =>
          clear REL
          go_wp2_with fail
          go_loopw [37, 7] (fun v f wq => ∃ j : Nat, j ≤ tn ∧ v = .int .i64 j ∧ f = .string ⟨#[]⟩ ∧ wq = w3 ∧ Hid (∀ k, k < j → ∀ t, ts[k]? = some t → lastv t sd ≠ ct)) (fun v _ _ => tn - (intOf v).toNat)
          case atStart => exact ⟨0, Nat.zero_le _, rfl, rfl, rfl, by intro k hk; omega⟩
          case round =>
            obtain ⟨j, hj, rfl, rfl, rfl, HN⟩ := hrel
            by_cases hjt : j < tn
            · obtain ⟨t, ht⟩ : ∃ t, ts[j]? = some t := ⟨ts[j]'(by omega), List.getElem?_eq_getElem (by omega)⟩
              obtain ⟨ad, rfl⟩ : ∃ ad, tao = some ad := by
                cases tao with
                | none => have := RDT.out.1 rfl; simp at this; subst this; simp at ht
                | some ad => exact ⟨ad, rfl⟩
              have cy := RDT.out.2 ad rfl j (.string t) (by rw [List.getElem?_map, ht]; rfl)
              obtain ⟨g0, vw, LB, l1, l2⟩ := REP.out t (List.mem_of_getElem? ht)
              have m1 := l1 _ K2
              have m2 := l2 _ K2
              have f1 := field43 g0 vw LB
              have f2 := field41 vw LB
              by_cases hc : lastv t sd = ct
              · have hfw : fw = t := by
                  rw [HFW.out]
                  have : (ts.find? fun t => decide (lastv t sd = ct)) = some t := by
                    rw [List.find?_eq_some_iff_getElem]
                    obtain ⟨hl, he⟩ := List.getElem?_eq_some_iff.1 ht
                    exact ⟨by simpa using hc, j, hl, he, fun k hk => by simpa using HN.out k hk _ (List.getElem?_eq_getElem (by omega))⟩
                  rw [this]; rfl
                have hcb : (lastv t sd == ct) = true := by simp [hc]
                clear l1 l2
                go_wp2
                go_meet
                case rel => exact ⟨by rw [hfw], rfl⟩
              · have hcb : (lastv t sd == ct) = false := by simp [hc]
                have HJ : Hid (∀ k, k < j + 1 → ∀ t, ts[k]? = some t → lastv t sd ≠ ct) := by
                  intro k hk t' ht'
                  by_cases hkj : k = j
                  · subst hkj; rw [ht] at ht'; cases ht'; exact hc
                  · exact HN.out k (by omega) t' ht'
                clear l1 l2 HN ht
                go_wp2
                exact ⟨⟨j + 1, by omega, by go_num, by first | rfl | trivial, by first | rfl | trivial, HJ⟩, by simp [intOf]; omega⟩
            · have hfw : fw = ⟨#[]⟩ := by
                rw [HFW.out]
                have : (ts.find? fun t => decide (lastv t sd = ct)) = none := by
                  rw [List.find?_eq_none]
                  intro t ht
                  obtain ⟨k, hk⟩ := List.mem_iff_getElem?.1 ht
                  simpa using HN.out k (by have := (List.getElem?_eq_some_iff.1 hk).1; omega) t hk
                rw [this]; rfl
              go_wp2
              go_meet
              case rel => exact ⟨by rw [hfw], rfl⟩
        case rest =>
          obtain ⟨rfl, rfl⟩ := hcut
          have hE2 := blK K2 hE (by decide)
          have d0 := (hE2.cell 0).trans e0
          have lE2 := hE2.lt
          have Fi2 : F i = if fw ≠ self then [] else ts.flatMap fun t => msgs view sd t (kc sd) (lastv t sd) ct (kn sd) := by
            rw [Fi]; unfold fwdOf; rw [if_neg (fun h => hin ((any_iff ts sd).1 h)), ← HFW.out]
          clear HFW Fi
          by_cases hfs : fw = self
          · have q : (fw.toList == self.toList) = true := by rw [hfs]; simp
            rw [if_neg (by simp [hfs])] at Fi2
            have HFI := unhalt Fi2
            clear Fi2
            obtain ⟨G, hG⟩ : ∃ G : ByteArray → List (ByteArray × List Value), G = fun t => msgs view sd t (kc sd) (lastv t sd) ct (kn sd) := ⟨_, rfl⟩
            have HG := unhalt hG
            rw [← hG] at HFI
            clear hG
            have hlen : (seen.toList.flatMap F).length ≤ 128 := by
              have h1 := flatMap_le F 32 seen.toList (fun k _ => by
                rw [HHF.out]
                simp only
                cases hk : cs[k]? with
                | none => simp
                | some p => exact fwdOf_len _ _ _ _ _ _ _ _ (by omega) (hkn p (List.mem_of_getElem? hk)))
              have h2 := seenOf_it I1
              have h3 : seen.size ≤ 4 := by have := HSL.out; simp at this; omega
              have : seen.toList.length = seen.size := by simp
              omega
            have hlen2 : ∀ k, ((ts.take k).flatMap G).length ≤ 32 := fun k => by
              have h1 := flatMap_le G 8 (ts.take k) (fun t _ => by rw [HG.out]; exact Nat.le_trans (msgs_len ..) (hkn _ hqm))
              have : (ts.take k).length ≤ 4 := by simp; omega
              omega
            have HL := unhalt (⟨hlen, hlen2⟩ : _ ∧ _)
            clear hlen hlen2
            have hk8 := hkn _ hqm
            have hsz8 := hsz _ hqm
            go_wp2
            go_loopw [64] (fun v wq => ∃ j : Nat, j ≤ tn ∧ v = .int .i64 j ∧ It wq r CB cs.length (seen.push i) ∧ Keep [SB] w wq ∧ Sends (r + 1) wq SB (seen.toList.flatMap F ++ (ts.take j).flatMap G)) (fun v _ => tn - (intOf v).toNat)
            case atStart => exact ⟨0, Nat.zero_le _, rfl, J1, K2, by simpa using S2⟩
            case round =>
              obtain ⟨j, hj, rfl, A1, A2, A3⟩ := hrel
              by_cases hjt : j < tn
              · obtain ⟨t, ht⟩ : ∃ t, ts[j]? = some t := ⟨ts[j]'(by omega), List.getElem?_eq_getElem (by omega)⟩
                obtain ⟨ad, rfl⟩ : ∃ ad, tao = some ad := by
                  cases tao with
                  | none => have := hts.1 rfl; simp at this; subst this; simp at ht
                  | some ad => exact ⟨ad, rfl⟩
                have RDA := A2.rd hts (fun x hx => by simpa using (htS x hx).1)
                have cy := RDA.2 ad rfl j (.string t) (by rw [List.getElem?_map, ht]; rfl)
                obtain ⟨g0, vw, LB, l1, l2⟩ := REP.out t (List.mem_of_getElem? ht)
                have m1 := l1 _ A2.drew
                have m2 := l2 _ A2.drew
                have f1 := field43 g0 vw LB
                have f2 := field41 vw LB
                have hE3 := blK A2.drew hE (by decide)
                have d12 := (hE3.cell 12).trans e12
                have d27 := (hE3.cell 27).trans e27
                have d6 := (hE3.cell 6).trans e6
                have lE3 : E < wr.heap.size := hE3.lt
                have hES : E ≠ SB := hE.ne hSB (by decide)
                have S3 : Sends (r + 1) wr.drew SB (seen.toList.flatMap F ++ (ts.take j).flatMap G) := sends_keep A3 (Keep.refl [] wr).drew
                have hbr : r + 1 ≤ wr.drew.heap.size := by have := (Array.getElem?_eq_some_iff.1 A1).1; exact this
                have hbd : (seen.toList.flatMap F ++ (ts.take j).flatMap G).length + kn sd ≤ 1000 := by
                  have h1 := HL.out.1
                  have h2 := HL.out.2 j
                  rw [List.length_append]; omega
                obtain ⟨kv, m3, HP⟩ : ∃ kv, (Instr.lookup 45 (.map (some KM)) (.string sd) false).run Yba.prog wr.drew = .ok kv wr.drew ∧ Hid (Calls Yba.prog 15 #[.pointer (some ⟨E, 0, none⟩), .string t, .string sd, .string view, kv, .int .u64 (lastv t sd), .int .u64 ct] wr.drew
                    fun e w' => e = .returned (.tuple #[]) ∧ Hid (Sends (r + 1) w' SB (seen.toList.flatMap F ++ (ts.take j).flatMap G ++ G t) ∧ KS (r + 1) SB 71 wr.drew w') ∧ w'.cell? ⟨E, 12, none⟩ = some (.string view) ∧ w'.cell? ⟨E, 27, none⟩ = some (.map (some KM))) := by
                  have hl := run_look Yba.prog wr.drew 45 9 50 KM kkvs sd (.pointer none) false Yba.underlying45 Yba.underlying9 zeroV50 (mpK A2.drew hMK)
                  rcases hkept _ hqm with ⟨h1, h2⟩ | ⟨K, h1, h2⟩
                  · refine ⟨.pointer none, by simpa [h1] using hl, ?_⟩
                    have hg : G t = [] := by rw [HG.out]; simp only [h2]; simp [msgs, pick]
                    rw [hg, List.append_nil]
                    exact (pass_nil E SB (r + 1) (lastv t sd) ct _ sd view t wr.drew S3).mono fun e w' ⟨a, b, c⟩ => ⟨a, ⟨b, c⟩, c.cell d12 hES (show E < r + 1 by omega), c.cell d27 hES (show E < r + 1 by omega)⟩
                  · refine ⟨.pointer (some ⟨K, 0, none⟩), by simpa [h1] using hl, ?_⟩
                    rw [HG.out]
                    rw [HG.out] at S3 hbd
                    exact (pass_any E SB (r + 1) K (kn sd) (kc sd) (lastv t sd) ct _ sd view t wr.drew S3 hbr (by omega) hbd (by omega) d6 (by omega) hES hsz8 hvw (h2.of fun g e cs he hb => blK A2.drew hb (by rintro rfl; simp at he))).mono fun e w' ⟨a, b, c⟩ => ⟨a, ⟨b, c⟩, c.cell d12 hES (show E < r + 1 by omega), c.cell d27 hES (show E < r + 1 by omega)⟩
                have HT := unhalt ht
                have S0 : wr.drew.cell? ⟨E, 12, none⟩ = some (.string view) ∧ wr.drew.cell? ⟨E, 27, none⟩ = some (.map (some KM)) := ⟨d12, d27⟩
                clear l1 l2 ht S3 hbd hE3 RDA d6 d5 d0 c43 c6 hnx hen lN2 lE2 d12 d27 q
                go_wp2
                go_region_held3 (fun w' => w'.cell? ⟨E, 12, none⟩ = some (.string view) ∧ w'.cell? ⟨E, 27, none⟩ = some (.map (some KM))) (first | assumption) (first | (go_at_call 15; refine HP.out.mono ?_; rintro e w4 ⟨rfl, hfin, hS4⟩))
                all_goals
                  have hks := hfin.out.2
                  have K4 : Keep [SB] w w4 := ⟨hks.os.trans A2.os, hks.tape.trans A2.tape, hks.output.trans A2.output, Nat.le_trans A2.size hks.size, fun k hk hne => (hks.block k (Nat.lt_of_lt_of_le hk A2.size) (by simpa using hne) (.inl (by omega))).trans (A2.block k hk hne)⟩
                  have I4' : It w4 r CB cs.length (seen.push i) := hks.heap A1 hrS (by omega)
                  have S4 : Sends (r + 1) w4 SB (seen.toList.flatMap F ++ (ts.take (j + 1)).flatMap G) := by
                    rw [List.take_add_one, HT.out, List.flatMap_append, ← List.append_assoc]
                    simpa using hfin.out.1
                  have HN4 := unhalt (⟨I4', K4, S4⟩ : _ ∧ _ ∧ _)
                  clear hks K4 I4' S4 hfin HP hS4 S0 m1 m2 m3 f1 f2 A3
                  go_wp2
                  exact ⟨⟨j + 1, by omega, by go_num, HN4.out.1, HN4.out.2.1, HN4.out.2.2⟩, by simp [intOf]; omega⟩
              · have htk : ts.take j = ts := List.take_of_length_le (by omega)
                rw [htk] at A3
                have H0 := unhalt (REL.out wr A1 A2 (by rw [HFI.out]; exact A3))
                clear REL htk A3
                go_wp2
                exact H0.out
          · have q : (fw.toList == self.toList) = false := beq_eq_false_iff_ne.2 fun e => hfs (bytes_ext e)
            rw [if_pos hfs] at Fi2
            have H0 := unhalt (REL.out wc J1 K2 (by rw [Fi2, List.append_nil]; exact S2))
            clear REL Fi2
            go_wp2
            exact H0.out
end Go.Proofs.Ybulkdfze
