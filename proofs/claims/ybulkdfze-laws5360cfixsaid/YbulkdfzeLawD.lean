import Derived.Test.YbulkdfzeLaw0
namespace Go.Proofs.Ybulkdfze
open Go Go.RowKit Go.Lib Go.Shelf

/-- The names. -/
def nameB (i : Nat) : ByteArray := ⟨#[UInt8.ofNat (97 + i)]⟩
def namesL : List Value := [.string ⟨#[97]⟩, .string ⟨#[98]⟩, .string ⟨#[99]⟩, .string ⟨#[100]⟩, .string ⟨#[101]⟩]
theorem names_get (j : Nat) (h : j < 5) : namesL[j]? = some (.string (nameB j)) := by
  have : j = 0 ∨ j = 1 ∨ j = 2 ∨ j = 3 ∨ j = 4 := by omega
  rcases this with rfl | rfl | rfl | rfl | rfl <;> rfl
theorem nameB_inj {i j : Nat} (hi : i < 5) (hj : j < 5) (h : nameB i = nameB j) : i = j := by
  have h1 : i = 0 ∨ i = 1 ∨ i = 2 ∨ i = 3 ∨ i = 4 := by omega
  have h2 : j = 0 ∨ j = 1 ∨ j = 2 ∨ j = 3 ∨ j = 4 := by omega
  rcases h1 with rfl | rfl | rfl | rfl | rfl <;> rcases h2 with rfl | rfl | rfl | rfl | rfl <;> first | rfl | (exfalso; revert h; decide)
theorem nameB_size (i : Nat) : (nameB i).size = 1 := rfl

/-- Four bools. -/
def bl (f : Nat → Bool) : List Value := [.bool (f 0), .bool (f 1), .bool (f 2), .bool (f 3)]
theorem bl_get (f : Nat → Bool) (j : Nat) (h : j < 4) : (bl f)[j]? = some (.bool (f j)) := by
  have : j = 0 ∨ j = 1 ∨ j = 2 ∨ j = 3 := by omega
  rcases this with rfl | rfl | rfl | rfl <;> rfl
theorem bl_set (f : Nat → Bool) (j : Nat) (h : j < 4) (b : Bool) : (bl f).set j (.bool b) = bl (fun i => if i = j then b else f i) := by
  have : j = 0 ∨ j = 1 ∨ j = 2 ∨ j = 3 := by omega
  rcases this with rfl | rfl | rfl | rfl <;> rfl
theorem bl_congr {f g : Nat → Bool} (h : ∀ i, i < 4 → f i = g i) : bl f = bl g := by
  simp [bl, h]
/-- Those of the first j that f picks. -/
def pickN (f : Nat → Bool) (j : Nat) : List Nat := (List.range j).filter f
theorem pickN_succ (f : Nat → Bool) (j : Nat) : pickN f (j + 1) = if f j = true then pickN f j ++ [j] else pickN f j := by
  unfold pickN
  rw [List.range_succ, List.filter_append]
  by_cases h : f j = true <;> simp [h]
theorem pickN_len (f : Nat → Bool) (j : Nat) : (pickN f j).length ≤ j := by
  have := List.length_filter_le f (List.range j)
  simpa [pickN] using this
def strs (l : List Nat) : List Value := l.map fun i => .string (nameB i)
def mbit (m : Int) (j : Nat) : Bool := bits BinOp.and IntKind.u8 (m / 2 ^ j) 1 == 1

/-- The law's arguments, and the world that it is called in. -/
structure LD where
  (w0 : World)
  (om nm self : Int)
  (pr old gu : Nat → Bool)
  (has : Nat → Nat → Bool)
  (sq : Nat → Nat → Int)
  (kN : Nat → Int)
  (held : List (Int × Int))
  (hao : Option Addr)
  (hcap : Nat)
  (rp : List Value)
def LD.O (D : LD) (i : Nat) : Bool := mbit D.om i
def LD.N (D : LD) (i : Nat) : Bool := mbit D.nm i
def hcells (l : List (Int × Int)) : List Value := l.flatMap fun p => [.int .u8 p.1, .int .u8 p.2]

structure LD.Ok (D : LD) : Prop where
  hom : 0 ≤ D.om ∧ D.om < 256
  hnm : 0 ≤ D.nm ∧ D.nm < 256
  hself : 0 ≤ D.self ∧ D.self < 256
  hsq : ∀ i j, 0 ≤ D.sq i j ∧ D.sq i j < 256
  hkN : ∀ i, 0 ≤ D.kN i ∧ D.kN i < 256
  hheld : ∀ p ∈ D.held, (0 ≤ p.1 ∧ p.1 < 256) ∧ 0 ≤ p.2 ∧ p.2 < 256
  lheld : D.held.length ≤ 1024
  hrp : ∀ i, i < 4 → D.rp[i * 11]? = some (.bool (D.pr i)) ∧ D.rp[i * 11 + 1]? = some (.bool (D.old i)) ∧ D.rp[i * 11 + 2]? = some (.bool (D.gu i)) ∧
    (∀ j, j < 4 → D.rp[i * 11 + 3 + j]? = some (.bool (D.has i j)) ∧ D.rp[i * 11 + 7 + j]? = some (.int .u8 (D.sq i j)))
  hrd : Rd D.w0 D.hao (hcells D.held)

/-- The blocks. -/
structure LI where
  (RP KN NM OB IN on oc nn nc : Nat)
  (oao nao : Option Addr)

structure FA (D : LD) (I : LI) (w : World) : Prop where
  k0 : Keep [] D.w0 w
  hRP : Blk w I.RP 26 D.rp
  hKN : Blk w I.KN 23 [.int .u8 (D.kN 0), .int .u8 (D.kN 1), .int .u8 (D.kN 2), .int .u8 (D.kN 3)]
  hNM : Blk w I.NM 28 namesL
  hIO : Blk w I.OB 22 (bl D.O)
  hIN : Blk w I.IN 22 (bl D.N)
  hOM : w.ownsRow D.w0.heap.size 9 1 (.slice I.oao I.on I.oc) (pickN D.O 4).length (strs (pickN D.O 4))
  hNN : w.ownsRow D.w0.heap.size 9 1 (.slice I.nao I.nn I.nc) (pickN D.N 4).length (strs (pickN D.N 4))
theorem FA.keep {D : LD} {I : LI} {w w1 : World} (h : FA D I w) (k : Keep [] w w1) : FA D I w1 :=
  ⟨h.k0.trans k (by simp), k.blk h.hRP (by simp), k.blk h.hKN (by simp), k.blk h.hNM (by simp), k.blk h.hIO (by simp), k.blk h.hIN (by simp), owns_keep h.hOM k (by simp), owns_keep h.hNN k (by simp)⟩

/-- What the law promises. -/
def LQ (D : LD) : Exit → Act → World → Prop := bodyPost Yba.prog Yba.f3 fun e w' => e = .returned (.bool true) ∧ Keep [] D.w0 w'

/-- The frame's slots that stand from phase A on. -/
structure SA (D : LD) (I : LI) (a : Act) : Prop where
  hs : a.tmps.size = 796
  hd : a.defers = []
  s5 : a.tmps[5]? = some (.slice D.hao D.held.length D.hcap)
  s8 : a.tmps[8]? = some (.pointer (some ⟨I.RP, 0, none⟩))
  s10 : a.tmps[10]? = some (.pointer (some ⟨I.KN, 0, none⟩))
  s13 : a.tmps[13]? = some (.pointer (some ⟨I.NM, 0, none⟩))
  s14 : a.tmps[14]? = some (.pointer (some ⟨I.OB, 0, none⟩))
  s15 : a.tmps[15]? = some (.pointer (some ⟨I.IN, 0, none⟩))
  s16 : a.tmps[16]? = some (.slice I.oao I.on I.oc)
  s17 : a.tmps[17]? = some (.slice I.nao I.nn I.nc)
  s19 : a.tmps[19]? = some (.string (nameB (D.self % 5).toNat))
end Go.Proofs.Ybulkdfze
