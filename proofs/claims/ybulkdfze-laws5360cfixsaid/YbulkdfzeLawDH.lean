import Derived.Test.YbulkdfzeLawG
namespace Go.Proofs.Ybulkdfze
open Go Go.RowKit Go.Lib Go.Shelf
def LD.chP (D : LD) (j k : Nat) : Bool := (D.T.take k).any fun t => D.has t j
def LD.stp (D : LD) (j : Nat) (m : Int) (t : Nat) : Int := if D.has t j = true then max m (D.sv t j) else m
def LD.cvP (D : LD) (j k : Nat) : Int := (D.T.take k).foldl (D.stp j) 0
def LD.ch (D : LD) (j : Nat) : Bool := D.O j && D.chP j D.T.length
def LD.cv (D : LD) (j : Nat) : Int := if D.O j = true then D.cvP j D.T.length else 0
theorem chP_succ (D : LD) (j k t : Nat) (h : D.T[k]? = some t) : D.chP j (k + 1) = (D.chP j k || D.has t j) := by
  unfold LD.chP; rw [List.take_add_one, h]; simp
theorem cvP_succ (D : LD) (j k t : Nat) (h : D.T[k]? = some t) : D.cvP j (k + 1) = D.stp j (D.cvP j k) t := by
  unfold LD.cvP; rw [List.take_add_one, h]; simp
def ul (f : Nat → Int) : List Value := [.int .u64 (f 0), .int .u64 (f 1), .int .u64 (f 2), .int .u64 (f 3)]
theorem ul_get (f : Nat → Int) (j : Nat) (h : j < 4) : (ul f)[j]? = some (.int .u64 (f j)) := by
  have : j = 0 ∨ j = 1 ∨ j = 2 ∨ j = 3 := by omega
  rcases this with rfl | rfl | rfl | rfl <;> rfl
theorem ul_set (f : Nat → Int) (j : Nat) (h : j < 4) (b : Int) : (ul f).set j (.int .u64 b) = ul (fun i => if i = j then b else f i) := by
  have : j = 0 ∨ j = 1 ∨ j = 2 ∨ j = 3 := by omega
  rcases this with rfl | rfl | rfl | rfl <;> rfl
theorem ul_congr {f g : Nat → Int} (h : ∀ i, i < 4 → f i = g i) : ul f = ul g := by simp [ul, h]
theorem T_lt {D : LD} {k t : Nat} (h : D.T[k]? = some t) : t < 4 ∧ D.N t = true ∧ D.pr t = true ∧ D.old t = true := by
  have := pickN_lt (List.mem_of_getElem? h)
  refine ⟨this.1, ?_⟩
  have h2 := this.2
  unfold LD.tr at h2
  simp only [Bool.and_eq_true] at h2
  exact ⟨h2.1.1, h2.1.2, h2.2⟩
theorem T_len (D : LD) : D.T.length ≤ 4 := pickN_len D.tr 4
structure SH (D : LD) (CHb CVb : Nat) (a : Act) : Prop where
  s55 : a.tmps[55]? = some (.pointer (some ⟨CHb, 0, none⟩))
  s56 : a.tmps[56]? = some (.pointer (some ⟨CVb, 0, none⟩))
  s57 : a.tmps[57]? = some (.int .i64 ((pickN D.ch 4).length : Int))
structure FH (D : LD) (CHb CVb : Nat) (w : World) : Prop where
  hCH : Blk w CHb 22 (bl D.ch)
  hCV : Blk w CVb 35 (ul D.cv)
end Go.Proofs.Ybulkdfze
