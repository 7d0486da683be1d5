import Derived.Test.YbulkdfzeCopies
import Derived.Maps.Own
import Derived.RangeFuncNested
namespace Go.Proofs.Ybulkdfze
open Go Go.RowKit Go.Lib

/-- The entries of a map that was only added to, from birth number s on. -/
def ents (s : Nat) : List (ByteArray × Value) → List MapEntry
  | [] => []
  | p :: r => { key := .string p.1, val := p.2, born := s } :: ents (s + 1) r

/-- Block b holds a map with just these keys and values, in the order in which they came. -/
def Mp (w : World) (b : Nat) (kvs : List (ByteArray × Value)) : Prop := w.heap[b]? = some (.map (ents 0 kvs).toArray kvs.length)

/-- Where a key stands. -/
def at? (k : ByteArray) : List (ByteArray × Value) → Nat → Option (Nat × Value)
  | [], _ => none
  | p :: r, i => if k = p.1 then some (i, p.2) else at? k r (i + 1)

theorem beq_bytes (x y : ByteArray) : (x == y) = decide (x = y) := by
  rw [beq_toListBytes]
  by_cases h : x = y
  · subst h; simp
  · rw [decide_eq_false h]; exact beq_eq_false_iff_ne.2 fun e => h (bytes_ext e)

theorem findNow_ents (k : ByteArray) : ∀ (kvs : List (ByteArray × Value)) (s i : Nat), Instr.findNow .string (.string k) (ents s kvs) i = some (at? k kvs i)
  | [], _, _ => rfl
  | p :: r, s, i => by
    simp only [ents, Instr.findNow, Instr.sameNow, at?, beq_bytes]
    by_cases h : k = p.1
    · simp [h]
    · simp only [h, decide_false, if_false]; exact findNow_ents k r (s + 1) (i + 1)

/-- What a look-up finds. -/
def look (k : ByteArray) (kvs : List (ByteArray × Value)) : Option Value := (at? k kvs 0).map (·.2)

theorem run_checkKey (P : Program) (w : World) (e : Bool) (n : Nat) (t : TypeId) (k : ByteArray) (ht : P.underlying t = some .string) : (Instr.checkKey e (n + 1) t (.string k)).run P w = .ok () w := by
  simp [Instr.checkKey, run_underlying ht]

theorem run_look (P : Program) (w : World) (t kt et : TypeId) (b : Nat) (kvs : List (ByteArray × Value)) (k : ByteArray) (z : Value) (ok : Bool) (ht : P.underlying t = some (.map kt et)) (hk : P.underlying kt = some .string)
    (hz : ∀ w, (zeroValue et).run P w = .ok z w) (hM : Mp w b kvs) :
    (Instr.lookup t (.map (some b)) (.string k) ok).run P w = .ok (if ok then .tuple #[(look k kvs).getD z, .bool (look k kvs).isSome] else (look k kvs).getD z) w := by
  have hM' : w.heap[b]? = some (.map (ents 0 kvs).toArray kvs.length) := hM
  unfold Instr.lookup
  have hg : (getObj b).run P w = .ok (.map (ents 0 kvs).toArray kvs.length) w := by simp [getObj, Sem.run, hM']
  simp only [Sem.run_bind, run_underlying ht, Result.andThen_ok, hg, Sem.run_pure, run_checkKey P w _ 9999 kt k hk, Instr.findKey, run_underlying hk, findNow_ents]
  cases hl : at? k kvs 0 with
  | none => cases ok <;> simp [look, hl, hz]
  | some p => cases ok <;> simp [look, hl]

/-- A key laid. -/
def putK (k : ByteArray) (v : Value) : List (ByteArray × Value) → List (ByteArray × Value)
  | [] => [(k, v)]
  | p :: r => if k = p.1 then (p.1, v) :: r else p :: putK k v r

theorem ents_append (p : ByteArray × Value) : ∀ (kvs : List (ByteArray × Value)) (s : Nat), ents s (kvs ++ [p]) = ents s kvs ++ [{ key := .string p.1, val := p.2, born := s + kvs.length }]
  | [], _ => rfl
  | q :: r, s => by simp only [List.cons_append, ents, ents_append p r (s + 1), List.length_cons]; rw [Nat.add_assoc, Nat.add_comm 1]

theorem put_none (k : ByteArray) (v : Value) : ∀ (kvs : List (ByteArray × Value)) (c : Nat), at? k kvs c = none → putK k v kvs = kvs ++ [(k, v)]
  | [], _, _ => rfl
  | p :: r, c, h => by
    unfold at? at h
    split at h
    · cases h
    · rename_i hne
      simp only [putK, hne, if_false, List.cons_append, put_none k v r (c + 1) h]

theorem put_some (k : ByteArray) (v : Value) : ∀ (kvs : List (ByteArray × Value)) (s c i : Nat) (x : Value), at? k kvs c = some (i, x) →
    ∃ j, i = c + j ∧ (∃ e, (ents s kvs)[j]? = some e ∧ e.key = .string k) ∧ (ents s kvs).modify j (fun e => { e with key := .string k, val := v }) = ents s (putK k v kvs) ∧ (putK k v kvs).length = kvs.length
  | [], _, _, _, _, h => by cases h
  | p :: r, s, c, i, x, h => by
    unfold at? at h
    split at h
    · rename_i he
      cases h
      exact ⟨0, rfl, ⟨_, rfl, by rw [he]⟩, by simp [putK, he, ents], by simp [putK, he]⟩
    · rename_i hne
      obtain ⟨j, h1, ⟨e, h2, h2'⟩, h3, h4⟩ := put_some k v r (s + 1) (c + 1) i x h
      exact ⟨j + 1, by omega, ⟨e, by simpa [ents] using h2, h2'⟩, by simp [putK, hne, ents, h3], by simp [putK, hne, h4]⟩

theorem run_put (P : Program) (w : World) (t kt et : TypeId) (b : Nat) (kvs : List (ByteArray × Value)) (k : ByteArray) (v : Value) (ht : P.underlying t = some (.map kt et)) (hk : P.underlying kt = some .string)
    (hM : Mp w b kvs) :
    (Instr.mapUpdate t (.map (some b)) (.string k) v).run P w = .ok () (w.putObj b (.map (ents 0 (putK k v kvs)).toArray (putK k v kvs).length)) := by
  have hM' : w.heap[b]? = some (.map (ents 0 kvs).toArray kvs.length) := hM
  unfold Instr.mapUpdate
  have hg : (getObj b).run P w = .ok (.map (ents 0 kvs).toArray kvs.length) w := by simp [getObj, Sem.run, hM']
  have hs : ∀ o, (setObj b o).run P w = .ok () (w.putObj b o) := fun o => by simp [setObj, Sem.run, hM', World.putObj]
  simp only [Sem.run_bind, run_underlying ht, Result.andThen_ok, hg, Sem.run_pure, run_checkKey P w _ 9999 kt k hk, Instr.findKey, run_underlying hk, findNow_ents]
  cases hl : at? k kvs 0 with
  | none =>
    have h1 := put_none k v kvs 0 hl
    have h2 := ents_append (k, v) kvs 0
    simp [hs, h1, h2]
  | some p =>
    obtain ⟨i, x⟩ := p
    obtain ⟨j, h1, ⟨e, h2, h2'⟩, h3, h4⟩ := put_some k v kvs 0 0 i x hl
    have hij : i = j := by omega
    subst hij
    have hkt : Instr.sameBits 10000 (.string k) (.string k) = true := by simp [Instr.sameBits, beq_bytes]
    simp [h2, h2', Instr.keyThatStays, hkt, hs, h4, h3]
end Go.Proofs.Ybulkdfze
