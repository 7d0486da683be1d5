import Derived.Test.YbulkdfzeForward
namespace Go.Proofs.Ybulkdfze
open Go Go.RowKit Go.Lib Go.Shelf
def chV : Value := .agg #[.string ⟨#[76]⟩, .int .u64 1, .int .u64 1]
theorem info9s : (Yba.prog.info? 9).map (fun i => i.size) = some 1 := by kernel_rfl
theorem info31s : (Yba.prog.info? 31).map (fun i => i.size) = some 1 := by kernel_rfl
theorem fields33 : Yba.prog.underlying 33 = some (.struct (Yba.prog.fieldsOf 33)) := by kernel_rfl
theorem stood33 : Yba.prog.stoodInHeld 33 = false := by kernel_rfl
theorem run_check_int (P : Program) (w : World) (e : Bool) (n : Nat) (t : TypeId) (k k' : IntKind) (z : Int) (ht : P.underlying t = some (.int k)) : (Instr.checkKey e (n + 1) t (.int k' z)).run P w = .ok () w := by
  simp [Instr.checkKey, run_underlying ht]
theorem part_str (s : ByteArray) (xs : Array Value) (o : Nat) (w : World) (h : xs[o]? = some (.string s)) : (part 9 xs o).run Yba.prog w = .ok (.string s) w := by
  obtain ⟨i, hi, hz⟩ := Option.map_eq_some_iff.1 info9s
  simp [part, run_underlying Yba.underlying9, isAgg, h]
theorem part_int (z : Int) (xs : Array Value) (o : Nat) (w : World) (h : xs[o]? = some (.int .u64 z)) : (part 31 xs o).run Yba.prog w = .ok (.int .u64 z) w := by
  obtain ⟨i, hi, hz⟩ := Option.map_eq_some_iff.1 info31s
  simp [part, run_underlying Yba.underlying31, isAgg, h]
theorem check33 (w : World) (n : Nat) (s : ByteArray) (a b : Int) : (Instr.checkKey false (n + 2) 33 (.agg #[.string s, .int .u64 a, .int .u64 b])).run Yba.prog w = .ok () w := by
  unfold Instr.checkKey
  have h1 := fun (w : World) => part_str s #[.string s, .int .u64 a, .int .u64 b] 0 w rfl
  have h2 := fun (w : World) => part_int a #[.string s, .int .u64 a, .int .u64 b] 1 w rfl
  have h3 := fun (w : World) => part_int b #[.string s, .int .u64 a, .int .u64 b] 2 w rfl
  have k1 := fun (w : World) => run_checkKey Yba.prog w false n 9 s Yba.underlying9
  have k2 := fun (w : World) (z : Int) => run_check_int Yba.prog w false n 31 .u64 .u64 z Yba.underlying31
  simp [run_underlying Yba.underlying33, h1, h2, h3, k1, k2]
theorem eq33 (w : World) (d : Nat) (s t : ByteArray) (a b c e : Int) : (Op.equalIn (d + 2) 33 (.agg #[.string s, .int .u64 a, .int .u64 b]) (.agg #[.string t, .int .u64 c, .int .u64 e])).run Yba.prog w = .ok (s.toList == t.toList && a == c && b == e) w := by
  have h1 := fun (s : ByteArray) (a b : Int) (w : World) => part_str s #[.string s, .int .u64 a, .int .u64 b] 0 w rfl
  have h2 := fun (s : ByteArray) (a b : Int)  (w : World) => part_int a #[.string s, .int .u64 a, .int .u64 b] 1 w rfl
  have h3 := fun (s : ByteArray) (a b : Int)  (w : World) => part_int b #[.string s, .int .u64 a, .int .u64 b] 2 w rfl
  have k1 := fun (w : World) (a b : ByteArray) => run_equalIn_string (P := Yba.prog) w d 9 a b Yba.underlying9
  have k2 := fun (w : World) (a b : Int) => run_equalIn_int (P := Yba.prog) w d 31 .u64 .u64 a b Yba.underlying31
  have hf : (Yba.prog.fieldsOf 33) = #[{ name := "Leader", type := 9, offset := 0, embedded := false, tag := "", pkgPath := "", byteOffset := 0 }, { name := "Incarnation", type := 31, offset := 1, embedded := false, tag := "", pkgPath := "", byteOffset := 16 }, { name := "N", type := 31, offset := 2, embedded := false, tag := "", pkgPath := "", byteOffset := 24 }] := by kernel_rfl
  rw [run_equalIn_struct w (d + 1) 33 _ _ fields33 stood33, hf]
  simp only [Op.eqFields, h1, h2, h3, k1, k2, Sem.run_bind, Result.andThen_ok, Sem.run_ite, Sem.run_pure]
  simp
  by_cases x1 : s.toList = t.toList <;> by_cases x2 : a = c <;> by_cases x3 : b = e <;> simp [x1, x2, x3]
theorem run_look91 (w : World) (YB : Nat) (val : Value) (hM : w.heap[YB]? = some (.map #[{ key := chV, val := val, born := 0 }] 1)) :
    (Instr.lookup 91 (.map (some YB)) chV false).run Yba.prog w = .ok val w := by
  have hg : (getObj YB).run Yba.prog w = .ok (.map #[{ key := chV, val := val, born := 0 }] 1) w := by simp [getObj, Sem.run, hM]
  have hck : (Instr.checkKey false 10000 33 chV).run Yba.prog w = .ok () w := check33 w 9998 _ _ _
  have heq : (Op.equal 33 chV chV).run Yba.prog w = .ok true w := by
    have := eq33 w 9998 ⟨#[76]⟩ ⟨#[76]⟩ 1 1 1 1
    simpa [Op.equal, Op.maxDepth, chV] using this
  unfold Instr.lookup
  simp [Instr.findKey, Instr.findAsking, Instr.findNow, Instr.sameNow, run_underlying Yba.underlying91, run_underlying Yba.underlying33, hg, hck, heq]

/-- What a look-up of a number finds. -/
def lookI (s : ByteArray) : List (ByteArray × Int) → Option Int
  | [] => none
  | p :: r => if s = p.1 then some p.2 else lookI s r
def putI (s : ByteArray) (v : Int) : List (ByteArray × Int) → List (ByteArray × Int)
  | [] => [(s, v)]
  | p :: r => if s = p.1 then (p.1, v) :: r else p :: putI s v r

theorem at_cut (s : ByteArray) : ∀ (cs : List (ByteArray × Int)) (i : Nat), (at? s (cutKvs cs) i).map (·.2) = (lookI s cs).map (Value.int .u64)
  | [], _ => rfl
  | p :: r, i => by
    simp only [cutKvs, List.map_cons, at?, lookI]
    split
    · rfl
    · exact at_cut s r (i + 1)
theorem look_cut (s : ByteArray) (cs : List (ByteArray × Int)) : look s (cutKvs cs) = (lookI s cs).map (Value.int .u64) := at_cut s cs 0
theorem look_cutD (s : ByteArray) (cs : List (ByteArray × Int)) : (look s (cutKvs cs)).getD (.int .u64 0) = .int .u64 ((lookI s cs).getD 0) := by
  rw [look_cut]; cases lookI s cs <;> rfl
theorem put_cut (s : ByteArray) (v : Int) : ∀ (cs : List (ByteArray × Int)), putK s (.int .u64 v) (cutKvs cs) = cutKvs (putI s v cs)
  | [] => rfl
  | p :: r => by
    have := put_cut s v r
    simp only [cutKvs, List.map_cons, putK, putI] at this ⊢
    split
    · rfl
    · rw [this]; rfl
theorem look_putI (s s' : ByteArray) (v : Int) : ∀ (cs : List (ByteArray × Int)), lookI s' (putI s v cs) = if s' = s then some v else lookI s' cs
  | [] => by simp [putI, lookI]
  | p :: r => by
    have ih := look_putI s s' v r
    simp only [putI]
    by_cases h : s = p.1
    · rw [if_pos h]
      simp only [lookI]
      by_cases h2 : s' = s
      · rw [if_pos (h2.trans h), if_pos h2]
      · rw [if_neg (fun e => h2 (e.trans h.symm)), if_neg h2, if_neg (fun e => h2 (e.trans h.symm))]
    · rw [if_neg h]
      simp only [lookI]
      by_cases h3 : s' = p.1
      · rw [if_pos h3, if_pos h3, if_neg (fun e => h (e.symm.trans h3))]
      · rw [if_neg h3, if_neg h3, ih]
theorem keys_putI (s : ByteArray) (v : Int) : ∀ (cs : List (ByteArray × Int)) (x : ByteArray), x ∈ (putI s v cs).map (·.1) ↔ x = s ∨ x ∈ cs.map (·.1)
  | [], x => by simp [putI]
  | p :: r, x => by
    have ih := keys_putI s v r x
    simp only [putI]
    split
    · rename_i h; simp [h]
    · simp only [List.map_cons, List.mem_cons, ih]
      constructor
      · rintro (h | h | h) <;> simp [h]
      · rintro (h | h | h) <;> simp [h]
theorem nodup_putI (s : ByteArray) (v : Int) : ∀ (cs : List (ByteArray × Int)), (cs.map (·.1)).Nodup → ((putI s v cs).map (·.1)).Nodup
  | [], _ => by simp [putI]
  | p :: r, h => by
    simp only [List.map_cons, List.nodup_cons] at h
    simp only [putI]
    split
    · simp only [List.map_cons, List.nodup_cons]; exact h
    · rename_i hne
      simp only [List.map_cons, List.nodup_cons]
      exact ⟨fun hm => by rcases (keys_putI s v r p.1).1 hm with e | e; exact hne e.symm; exact h.1 e, nodup_putI s v r h.2⟩
theorem lookI_mem {s : ByteArray} {v : Int} : ∀ {cs : List (ByteArray × Int)}, lookI s cs = some v → (s, v) ∈ cs
  | [], h => by cases h
  | p :: r, h => by
    simp only [lookI] at h
    split at h
    · rename_i he; cases h; subst he; simp
    · simp [lookI_mem h]
theorem mem_lookI {s : ByteArray} {v : Int} : ∀ {cs : List (ByteArray × Int)}, (cs.map (·.1)).Nodup → (s, v) ∈ cs → lookI s cs = some v
  | [], _, h => by cases h
  | p :: r, hd, h => by
    simp only [List.map_cons, List.nodup_cons] at hd
    simp only [lookI]
    rcases List.mem_cons.1 h with rfl | h
    · simp
    · rw [if_neg (fun e => hd.1 (by rw [← e]; exact List.mem_map.2 ⟨_, h, rfl⟩))]
      exact mem_lookI hd.2 h

/-- The cut: of each member in os the greatest number that is known of it. -/
structure CutIs (os : List ByteArray) (U : ByteArray × Int → Prop) (cs : List (ByteArray × Int)) : Prop where
  nd : (cs.map (·.1)).Nodup
  sound : ∀ s v, lookI s cs = some v → s ∈ os ∧ U (s, v)
  full : ∀ s v, s ∈ os → U (s, v) → ∃ m, lookI s cs = some m ∧ v ≤ m

theorem CutIs.congr {os : List ByteArray} {U U' : ByteArray × Int → Prop} {cs : List (ByteArray × Int)} (h : CutIs os U cs) (hU : ∀ p, U p ↔ U' p) : CutIs os U' cs :=
  ⟨h.nd, fun s v e => ⟨(h.sound s v e).1, (hU _).1 (h.sound s v e).2⟩, fun s v hs hu => h.full s v hs ((hU _).2 hu)⟩
theorem CutIs.out {os : List ByteArray} {U : ByteArray × Int → Prop} {cs : List (ByteArray × Int)} (h : CutIs os U cs) {s : ByteArray} {v : Int} (hs : s ∉ os) : CutIs os (fun p => U p ∨ p = (s, v)) cs :=
  ⟨h.nd, fun s' v' e => ⟨(h.sound s' v' e).1, .inl (h.sound s' v' e).2⟩, fun s' v' hs' hu => by
    rcases hu with hu | hu
    · exact h.full s' v' hs' hu
    · cases hu; exact absurd hs' hs⟩
theorem CutIs.put {os : List ByteArray} {U : ByteArray × Int → Prop} {cs : List (ByteArray × Int)} (h : CutIs os U cs) {s : ByteArray} {v : Int} (hs : s ∈ os) (hv : 0 ≤ v) : CutIs os (fun p => U p ∨ p = (s, v)) (putI s (max ((lookI s cs).getD 0) v) cs) := by
  refine ⟨nodup_putI _ _ _ h.nd, fun s' v' e => ?_, fun s' v' hs' hu => ?_⟩
  · rw [look_putI] at e
    split at e
    · rename_i he
      subst he
      cases e
      refine ⟨hs, ?_⟩
      by_cases hm : (lookI s' cs).getD 0 ≤ v
      · right; rw [Int.max_eq_right hm]
      · left
        rw [Int.max_eq_left (by omega)]
        cases hl : lookI s' cs with
        | none => rw [hl] at hm; simp at hm; omega
        | some m => exact (h.sound s' m hl).2
    · exact ⟨(h.sound s' v' e).1, .inl (h.sound s' v' e).2⟩
  · rw [look_putI]
    split
    · rename_i he
      subst he
      refine ⟨_, rfl, ?_⟩
      rcases hu with hu | hu
      · obtain ⟨m, h1, h2⟩ := h.full s' v' hs' hu
        rw [h1]
        exact Int.le_trans h2 (Int.le_max_left _ _)
      · cases hu; exact Int.le_max_right _ _
    · rename_i hne
      rcases hu with hu | hu
      · exact h.full s' v' hs' hu
      · cases hu; exact absurd rfl hne

theorem nodup_sub {α : Type} : ∀ (os l : List α), l.Nodup → (∀ x ∈ l, x ∈ os) → l.length ≤ os.length
  | [], l, _, h => by
    cases l with
    | nil => simp
    | cons a r => exact absurd (h a (by simp)) (by simp)
  | a :: r, l, hd, h => by
    classical
    have h1 := nodup_sub r (l.filter fun x => decide (x ≠ a)) (hd.filter _) (fun x hx => by
      simp at hx
      rcases List.mem_cons.1 (h x hx.1) with e | e
      · exact absurd e hx.2
      · exact e)
    have h2 : l.length ≤ (l.filter fun x => decide (x ≠ a)).length + 1 := by
      clear h h1
      induction l with
      | nil => simp
      | cons b t ih =>
        simp only [List.nodup_cons] at hd
        by_cases hb : b = a
        · subst hb
          have : (t.filter fun x => decide (x ≠ b)) = t := List.filter_eq_self.2 (fun x hx => by simp; intro e; subst e; exact hd.1 hx)
          rw [List.filter_cons_of_neg (by simp), this]; simp
        · have := ih hd.2
          simp [hb] at this ⊢
          omega
    simp only [List.length_cons]
    omega
end Go.Proofs.Ybulkdfze
