import Derived.Test.YbulkdfzeLawDB
namespace Go.Proofs.Ybulkdfze
open Go Go.RowKit Go.Lib Go.Shelf

def LD.kk (D : LD) (j : Nat) : Nat := (D.kN j % 8).toNat
def LD.hask (D : LD) (j : Nat) : Bool := decide (D.kk j ≠ 0)
theorem LD.kk_lt (D : LD) (j : Nat) : D.kk j < 8 := by unfold LD.kk; omega
def cOf (j : Nat) : Int := 97 + j
def LD.kkvs (D : LD) (KB : Nat → Nat) (j : Nat) : List (ByteArray × Value) := (pickN D.hask j).map fun k => (nameB k, .pointer (some ⟨KB k, 0, none⟩))
def il (f : Nat → Nat) : List Value := [.int .i64 (f 0), .int .i64 (f 1), .int .i64 (f 2), .int .i64 (f 3)]
theorem il_get (f : Nat → Nat) (j : Nat) (h : j < 4) : (il f)[j]? = some (.int .i64 (f j)) := by
  have : j = 0 ∨ j = 1 ∨ j = 2 ∨ j = 3 := by omega
  rcases this with rfl | rfl | rfl | rfl <;> rfl
theorem il_set (f : Nat → Nat) (j : Nat) (h : j < 4) (b : Nat) : (il f).set j (.int .i64 b) = il (fun i => if i = j then b else f i) := by
  have : j = 0 ∨ j = 1 ∨ j = 2 ∨ j = 3 := by omega
  rcases this with rfl | rfl | rfl | rfl <;> rfl
theorem il_congr {f g : Nat → Nat} (h : ∀ i, i < 4 → f i = g i) : il f = il g := by
  simp [il, h]

structure LC where
  (KC KM : Nat)
  (KB : Nat → Nat)
structure FC (D : LD) (J : LC) (w : World) : Prop where
  hKC : Blk w J.KC 44 (il D.kk)
  hKM : Mp w J.KM (D.kkvs J.KB 4)
  hKB : ∀ k, k < 4 → D.hask k = true → Copies w (J.KB k) (cOf k) (D.kk k)
theorem FC.keep {D : LD} {J : LC} {w w1 : World} (h : FC D J w) (k : Keep [] w w1) : FC D J w1 :=
  ⟨k.blk h.hKC (by simp), k.mp h.hKM (by simp), fun i hi hp => (h.hKB i hi hp).of fun g e cs _ hb => k.blk hb (by simp)⟩
structure SC (J : LC) (a : Act) : Prop where
  s28 : a.tmps[28]? = some (.pointer (some ⟨J.KC, 0, none⟩))
  s29 : a.tmps[29]? = some (.map (some J.KM))
theorem kkvs_succ (D : LD) (f : Nat → Nat) (K i : Nat) (hp : D.hask i = true) : D.kkvs (fun k => if k = i then K else f k) (i + 1) = D.kkvs f i ++ [(nameB i, .pointer (some ⟨K, 0, none⟩))] := by
  unfold LD.kkvs
  rw [pickN_succ, if_pos hp, List.map_append]
  congr 1
  · apply List.map_congr_left
    intro k hk
    have : k < i := by
      unfold pickN at hk
      simpa using (List.mem_filter.1 hk).1
    show (nameB k, Value.pointer (some ⟨if k = i then K else f k, 0, none⟩)) = _
    rw [if_neg (by omega)]
  · simp
theorem kkvs_none (D : LD) (f : Nat → Nat) (i : Nat) (hp : D.hask i = false) : D.kkvs f (i + 1) = D.kkvs f i := by
  unfold LD.kkvs
  rw [pickN_succ, hp]; simp
theorem kkvs_keys (D : LD) (f : Nat → Nat) (i : Nat) (hi : i < 4) : ∀ p ∈ D.kkvs f i, p.1 ≠ nameB i := by
  intro p hp e
  unfold LD.kkvs at hp
  obtain ⟨k, hk, rfl⟩ := List.mem_map.1 hp
  have : k < i := by
    unfold pickN at hk
    simpa using (List.mem_filter.1 hk).1
  have := nameB_inj (by omega) (by omega) e
  omega
theorem flat_range {α : Type} (g : Nat → List α) (k : Nat) (hk : ∀ s, (g s).length = k) : ∀ (j i r : Nat), i < j → r < k → ((List.range j).flatMap g)[i * k + r]? = (g i)[r]?
  | 0, _, _, h, _ => by omega
  | j + 1, i, r, h, hr => by
    have hl : ∀ n, ((List.range n).flatMap g).length = n * k := fun n => by
      induction n with
      | zero => simp
      | succ n ih => rw [List.range_succ, List.flatMap_append, List.length_append, ih]; simp [hk, Nat.succ_mul]
    rw [List.range_succ, List.flatMap_append]
    by_cases hij : i < j
    · have : i * k + r < j * k := by
        have h1 : (i + 1) * k ≤ j * k := Nat.mul_le_mul_right k (by omega)
        rw [Nat.succ_mul] at h1
        omega
      rw [List.getElem?_append_left (by rw [hl]; exact this)]
      exact flat_range g k hk j i r hij hr
    · have : i = j := by omega
      subst this
      rw [List.getElem?_append_right (by rw [hl]; omega), hl, Nat.add_sub_cancel_left]
      simp
theorem flat_range_len {α : Type} (g : Nat → List α) (k : Nat) (hk : ∀ s, (g s).length = k) : ∀ n, ((List.range n).flatMap g).length = n * k := fun n => by
  induction n with
  | zero => simp
  | succ n ih => rw [List.range_succ, List.flatMap_append, List.length_append, ih]; simp [hk, Nat.succ_mul]
def bElem (c : Int) (s : Nat) : List Value := [.int .u8 ((s : Int) + 1), .int .u8 c]
def hElem (s : Nat) : List Value := [.int .u64 ((s : Int) + 1), .int .u64 0, .int .i64 ((2 * s : Nat) : Int), .int .i64 2]
def bytesOf (c : Int) (j : Nat) : List Value := (List.range j).flatMap (bElem c)
def hcsOf (j : Nat) : List Value := (List.range j).flatMap hElem
theorem bytesOf_len (c : Int) (j : Nat) : (bytesOf c j).length = j * 2 := flat_range_len (bElem c) 2 (fun _ => rfl) j
theorem hcsOf_len (j : Nat) : (hcsOf j).length = j * 4 := flat_range_len hElem 4 (fun _ => rfl) j
theorem bytesOf_succ (c : Int) (j : Nat) : bytesOf c (j + 1) = bytesOf c j ++ bElem c j := by simp [bytesOf, List.range_succ]
theorem hcsOf_succ (j : Nat) : hcsOf (j + 1) = hcsOf j ++ hElem j := by simp [hcsOf, List.range_succ]
theorem copies_made {w : World} {K c : Nat} {n HSb cap PB BF : Nat} {ci : Int} {v : Value} {base : Nat} (hK : Blk w K 55 [v, .int .i64 0, .slice (some ⟨PB, 0, none⟩) 1 1, .int .u64 0]) (ho : w.ownsRow base 49 4 v n (hcsOf n)) (hv : v = .slice (some ⟨HSb, 0, none⟩) n cap)
    (hP : Blk w PB 52 [.slice (some ⟨BF, 0, none⟩) (2 * n) c, .bool false]) (hB : Blk w BF 5 (bytesOf ci n)) (hc : 2 * n ≤ c) : Copies w K ci n := by
  subst hv
  rcases ho.2 with ⟨h, _⟩ | ⟨g, cap', cur, h, _, hg, hcap, _, hcur, htk⟩
  · cases h
  · cases h
    refine ⟨HSb, cap, PB, BF, c, cur.toList, [.bool false], _, hK, by unfold Blk; simpa using hg, hP, hB, hcap, hc, fun i hi => ?_, fun i hi => ?_⟩
    · have get : ∀ r, r < 4 → cur.toList[i * 4 + r]? = (hElem i)[r]? := fun r hr => by
        have h1 : (hcsOf n)[i * 4 + r]? = _ := flat_range hElem 4 (fun _ => rfl) n i r hi hr
        rw [← htk, List.getElem?_take, if_pos (by omega)] at h1
        exact h1
      exact ⟨get 0 (by omega), get 1 (by omega), get 2 (by omega), get 3 (by omega)⟩
    · have get : ∀ r, r < 2 → (bytesOf ci n)[i * 2 + r]? = (bElem ci i)[r]? := fun r hr => flat_range (bElem ci) 2 (fun _ => rfl) n i r hi hr
      have h0 := get 0 (by omega)
      have h1 := get 1 (by omega)
      rw [Nat.mul_comm i 2] at h0 h1
      exact ⟨h0, h1⟩
theorem nameB_first (i : Nat) (hi : i < 5) (h : 0 < (nameB i).size) : ((nameB i)[0]'h).toNat = 97 + i := by
  have : i = 0 ∨ i = 1 ∨ i = 2 ∨ i = 3 ∨ i = 4 := by omega
  rcases this with rfl | rfl | rfl | rfl | rfl <;> rfl
theorem info49 : (Yba.prog.info? 49).map (fun i => (i.zero.isSome, i.size, i.bytes)) = some (true, 4, 32) := by kernel_rfl
theorem zero49 : (Yba.prog.info? 49).bind (fun i => i.zero.map (fun z => z.cells.size)) = some 4 := by kernel_rfl
end Go.Proofs.Ybulkdfze
