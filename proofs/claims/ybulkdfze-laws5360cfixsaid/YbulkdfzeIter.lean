import Derived.Test.YbulkdfzeMaps
import Derived.Maps.RangeRun
namespace Go.Proofs.Ybulkdfze
open Go Go.RowKit Go.Lib
open Go.ChangeMaps (setBlock)

theorem mem_ents {e : MapEntry} : ∀ {kvs : List (ByteArray × Value)} {s : Nat}, e ∈ ents s kvs → ∃ i p, kvs[i]? = some p ∧ e = { key := .string p.1, val := p.2, born := s + i }
  | [], _, h => by cases h
  | q :: r, s, h => by
    simp only [ents, List.mem_cons] at h
    rcases h with rfl | h
    · exact ⟨0, q, rfl, rfl⟩
    · obtain ⟨i, p, h1, h2⟩ := mem_ents h
      exact ⟨i + 1, p, by simpa using h1, by rw [h2]; congr 1; omega⟩

theorem ents_mem {i : Nat} {p : ByteArray × Value} : ∀ {kvs : List (ByteArray × Value)} {s : Nat}, kvs[i]? = some p → ({ key := .string p.1, val := p.2, born := s + i } : MapEntry) ∈ ents s kvs := by
  induction i with
  | zero =>
    intro kvs s h
    cases kvs with
    | nil => cases h
    | cons q r => simp at h; subst h; simp [ents]
  | succ i ih =>
    intro kvs s h
    cases kvs with
    | nil => cases h
    | cons q r =>
      have := ih (kvs := r) (s := s + 1) (by simpa using h)
      simp only [ents, List.mem_cons]
      right
      have e : s + (i + 1) = s + 1 + i := by omega
      rw [e]; exact this

theorem ents_born : ∀ (kvs : List (ByteArray × Value)) (s : Nat), (ents s kvs).map (·.born) = List.range' s kvs.length
  | [], _ => rfl
  | q :: r, s => by simp [ents, ents_born r (s + 1), List.range'_succ]

/-- The walk r over the map b of n entries; those at seen have come. -/
def It (w : World) (r b n : Nat) (seen : Array Nat) : Prop := w.heap[r]? = some (.mapIter (some b) n seen n)

theorem run_range_mp (P : Program) (w : World) (t kt et : TypeId) (b : Nat) (kvs : List (ByteArray × Value)) (ht : P.underlying t = some (.map kt et)) (hM : Mp w b kvs) :
    (Instr.range t (.map (some b))).run P w = .ok (.pointer (some ⟨w.heap.size, 0, none⟩)) (w.alloc (.mapIter (some b) kvs.length #[] kvs.length)) := by
  have hM' : w.heap[b]? = some (.map (ents 0 kvs).toArray kvs.length) := hM
  have hg : (getObj b).run P w = .ok (.map (ents 0 kvs).toArray kvs.length) w := by simp [getObj, Sem.run, hM']
  unfold Instr.range
  simp only [Sem.run_bind, run_underlying ht, Result.andThen_ok, hg, Sem.run_pure, run_newObj_alloc]

theorem run_next_mp (P : Program) (w : World) (ty : TypeId) (r b : Nat) (kvs : List (ByteArray × Value)) (seen : Array Nat) (hM : Mp w b kvs) (hI : It w r b kvs.length seen) :
    ((∀ i, i < kvs.length → i ∈ seen) ∧ (Instr.next (.pointer (some ⟨r, 0, none⟩)) false ty).run P w = .ok (.tuple #[.bool false]) w) ∨
    ∃ i p, kvs[i]? = some p ∧ i ∉ seen ∧ ∃ w1 : World, (w1 = w ∨ w1 = w.drew) ∧ (Instr.next (.pointer (some ⟨r, 0, none⟩)) false ty).run P w = .ok (.tuple #[.bool true, .string p.1, p.2]) (setBlock w1 r (.mapIter (some b) kvs.length (seen.push i) kvs.length)) := by
  rcases run_next_at (P := P) w ty r b kvs.length kvs.length seen _ _ hI hM (fun x hx => by
      obtain ⟨i, p, h1, rfl⟩ := mem_ents (by simpa using hx)
      have := (List.getElem?_eq_some_iff.1 h1).1
      simpa using this) (Nat.le_refl _) with ⟨h0, h1⟩ | ⟨e, he, w1, hw, h1⟩
  · refine .inl ⟨fun i hi => ?_, h1⟩
    have hm := ents_mem (s := 0) (List.getElem?_eq_getElem hi)
    refine Classical.byContradiction fun hn => ?_
    have hx : ({ key := .string kvs[i].1, val := kvs[i].2, born := 0 + i } : MapEntry) ∈ (leftOf (ents 0 kvs).toArray seen) := by
      unfold leftOf
      simp only [Array.mem_filter, List.mem_toArray]
      exact ⟨hm, by simpa using hn⟩
    have := Array.size_pos_of_mem hx
    omega
  · have he' : e ∈ (ents 0 kvs) ∧ e.born ∉ seen := by
      unfold leftOf at he
      simpa using he
    obtain ⟨i, p, h2, rfl⟩ := mem_ents he'.1
    exact .inr ⟨i, p, h2, by simpa using he'.2, w1, hw, by simpa using h1⟩
end Go.Proofs.Ybulkdfze
