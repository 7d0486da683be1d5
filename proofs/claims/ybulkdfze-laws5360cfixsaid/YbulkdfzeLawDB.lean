import Derived.Test.YbulkdfzeLawD
namespace Go.Proofs.Ybulkdfze
open Go Go.RowKit Go.Lib Go.Shelf

def vone : ByteArray := ⟨#[118, 49]⟩
def vzero : ByteArray := ⟨#[118, 48]⟩
def LD.gB (D : LD) (i : Nat) : ByteArray := if D.gu i = true then ⟨#[103]⟩ else ⟨#[]⟩
def LD.vB (D : LD) (i : Nat) : ByteArray := if D.old i = true then vone else vzero
/-- The numbers that member i reports. -/
def LD.lstj (D : LD) (i j : Nat) : List (ByteArray × Int) := (pickN (D.has i) j).map fun k => (nameB k, D.sq i k % 8)
def LD.sv (D : LD) (i j : Nat) : Int := if (D.pr i && D.has i j) = true then D.sq i j % 8 else 0
def LD.reps (D : LD) (LB : Nat → Nat) (i : Nat) : List (ByteArray × Value) := (pickN D.pr i).map fun k => (nameB k, repV (D.gB k) (D.vB k) (LB k))

def row16 (g : Nat → Int) : List Value := (List.range 16).map fun n => .int .u64 (g n)
theorem row16_get (g : Nat → Int) (n : Nat) (h : n < 16) : (row16 g)[n]? = some (.int .u64 (g n)) := by simp [row16, h]
theorem row16_set (g : Nat → Int) (k : Nat) (v : Int) : (row16 g).set k (.int .u64 v) = row16 fun n => if n = k then v else g n := by
  unfold row16
  apply List.ext_getElem?
  intro n
  by_cases hn : n < 16
  · by_cases hk : n = k
    · subst hk; simp [hn]
    · rw [List.getElem?_set_ne (fun e => hk e.symm)]
      simp [hn, hk]
  · rw [List.getElem?_eq_none (by simp; omega), List.getElem?_eq_none (by simp; omega)]
theorem row16_congr {f g : Nat → Int} (h : ∀ n, n < 16 → f n = g n) : row16 f = row16 g := by
  unfold row16
  apply List.map_congr_left
  intro n hn
  rw [h n (by simpa using hn)]

theorem at_none {k : ByteArray} : ∀ {kvs : List (ByteArray × Value)} {i : Nat}, (∀ p ∈ kvs, p.1 ≠ k) → at? k kvs i = none
  | [], _, _ => rfl
  | p :: r, i, h => by
    simp only [at?]
    rw [if_neg (fun e => h p (by simp) e.symm)]
    exact at_none fun q hq => h q (by simp [hq])
theorem put_new {k : ByteArray} {v : Value} {kvs : List (ByteArray × Value)} (h : ∀ p ∈ kvs, p.1 ≠ k) : putK k v kvs = kvs ++ [(k, v)] := put_none k v kvs 0 (at_none h)

/-- A map's store. -/
theorem mput (w : World) (t et : TypeId) (B : Nat) (kvs : List (ByteArray × Value)) (k : ByteArray) (v : Value) (ht : Yba.prog.underlying t = some (.map 9 et)) (hM : Mp w B kvs) (hn : ∀ p ∈ kvs, p.1 ≠ k) :
    ∃ w2, (Instr.mapUpdate t (.map (some B)) (.string k) v).run Yba.prog w = .ok () w2 ∧ Mp w2 B (kvs ++ [(k, v)]) ∧ Keep [B] w w2 := by
  have h := run_put Yba.prog w t 9 et B kvs k v ht Yba.underlying9 hM
  rw [put_new hn] at h
  have hlt : B < w.heap.size := (Array.getElem?_eq_some_iff.1 hM).1
  refine ⟨_, h, ?_, ⟨rfl, rfl, rfl, by simp [World.putObj], fun k hk hne => ?_⟩⟩
  · unfold Mp World.putObj; simp [hlt]
  · unfold World.putObj
    simp only [List.mem_singleton] at hne
    simp [Array.getElem?_setIfInBounds_ne (fun e => hne e.symm)]
theorem run_mkmap (t : TypeId) (w : World) : (Instr.makeMap t none).run Yba.prog w = .ok (.map (some w.heap.size)) (w.alloc (.map #[] 0)) := by
  simp [Instr.makeMap]
theorem Keep.mp {S : List Nat} {w w1 : World} (h : Keep S w w1) {b : Nat} {kvs : List (ByteArray × Value)} (hM : Mp w b kvs) (hb : b ∉ S) : Mp w1 b kvs := (h.block b (Array.getElem?_eq_some_iff.1 hM).1 hb).trans hM
theorem Mp.lt {w : World} {b : Nat} {kvs : List (ByteArray × Value)} (h : Mp w b kvs) : b < w.heap.size := (Array.getElem?_eq_some_iff.1 h).1

structure LB where
  (CH RB SQ : Nat)
  (LBf : Nat → Nat)

structure FB (D : LD) (J : LB) (w : World) : Prop where
  hCH : Blk w J.CH 33 [.string ⟨#[76]⟩, .int .u64 1, .int .u64 1]
  hRB : Mp w J.RB (D.reps J.LBf 4)
  hLB : ∀ k, k < 4 → D.pr k = true → Mp w (J.LBf k) (cutKvs (D.lstj k 4))
  hSQ : Blk w J.SQ 36 (row16 fun n => D.sv (n / 4) (n % 4))
theorem FB.keep {D : LD} {J : LB} {w w1 : World} (h : FB D J w) (k : Keep [] w w1) : FB D J w1 :=
  ⟨k.blk h.hCH (by simp), k.mp h.hRB (by simp), fun i hi hp => k.mp (h.hLB i hi hp) (by simp), k.blk h.hSQ (by simp)⟩
structure SB1 (J : LB) (a : Act) : Prop where
  s20 : a.tmps[20]? = some (.pointer (some ⟨J.CH, 0, none⟩))
  s21 : a.tmps[21]? = some (.map (some J.RB))
  s22 : a.tmps[22]? = some (.pointer (some ⟨J.SQ, 0, none⟩))
end Go.Proofs.Ybulkdfze
