import Derived.Test.YbulkdfzeDoorRows
import Derived.Test.YbulkdfzeDoorBlocks
import Derived.Deep.RegionHeld3
import Derived.Deep.DeepMust
import Derived.Deep.QuietTactic
import Derived.BigQuiet
namespace Go.Proofs.YbulkdfzeDoor
open Go Go.RowKit
theorem info5 : (Ybad.prog.info? 5).map (fun i => (i.zero, i.size, i.bytes)) = some (some (.int .u8 0), 1, 1) := by kernel_rfl
theorem info35 : (Ybad.prog.info? 35).map (fun i => (i.zero.isSome, i.size, i.bytes)) = some (true, 4, 56) := by kernel_rfl

/-- How many bytes of data the entry for size z has. -/
def szOf (z : Int) : Nat := (z % 8).toNat * 65536 + (z / 8 % 8).toNat

theorem szOf_le (z : Int) : szOf z ≤ 458759 := by
  unfold szOf
  have h1 : (z % 8).toNat ≤ 7 := by omega
  have h2 : (z / 8 % 8).toNat ≤ 7 := by omega
  omega

/-- The entries: numbered, with so many bytes each. -/
def Ents (w : World) (g B : Nat) (ds : List Nat) : Prop :=
  ∀ (i n : Nat), ds[i]? = some n → w.cell? ⟨g, i * 4 + 2, none⟩ = some (.int .u64 (i : Int)) ∧ w.cell? ⟨g, i * 4 + 3, none⟩ = some (.slice (some ⟨B, 0, none⟩) n n)

theorem Ents.keep {S : List Nat} {w w' : World} {g B : Nat} {ds : List Nat} (h : Ents w g B ds) (hk : Keep S w w') (hg : g ∉ S) : Ents w' g B ds :=
  fun i n hi => ⟨hk.cell (h i n hi).1 hg, hk.cell (h i n hi).2 hg⟩

section
variable {P : Program} {ops : Array Oper} {Q : Exit → Act → World → Prop} {o : Oper} {rest : List Oper} {a : Act} (w : World)
theorem wpList_mk' (hgd : o.guard = none) (l c : Operand) (t : TypeId) (hop : o.op = Op.makeSlice t l c)
    (e : TypeId) (i : TypeInfo) (z : Value) (ht : P.underlying t = some (.slice e)) (hi : P.info? e = some i) (hz : i.zero = some z)
    (kl kc : IntKind) (L C : Int) (nl nc : Nat) (hl : a.eval l = .int kl L) (hc : a.eval c = .int kc C) (hL : L = (nl : Int)) (hC : C = (nc : Int)) (hlc : nl ≤ nc) (hby : i.bytes * nc ≤ 281474976710656) (hmax : nc ≤ maxLen)
    (h : ∀ w' cs, cs.length = nc * i.size → Blk w' w.heap.size e cs → w.grownBy w' none → w'.heap.size = w.heap.size + 1 → wpList P ops Q rest (a.put o.dst (.slice (some ⟨w.heap.size, 0, none⟩) nl nc)) w') : wpList P ops Q (o :: rest) a w := by
  refine wpList_plain hgd fun K hK => ?_
  subst hL hC
  have hb' : (i.bytes : Int) * (nc : Int) ≤ 281474976710656 := by
    have h : ((i.bytes * nc : Nat) : Int) ≤ 281474976710656 := by omega
    rwa [Int.natCast_mul] at h
  have hr := run_make (P := P) w t e i z ht hi hz kl kc nl nc (by omega) (by omega) hb' (by simp only [maxLen] at hmax; omega)
  simp only [Int.toNat_natCast] at hr
  unfold Oper.wp
  simp [execOp, hop, hl, hc, hr, Result.andThen]
  exact hK _ _ (h _ (madeCells z.cells (nc * i.size)).toList (by simp [size_madeCells]) (Blk.new w _ e) (World.grownBy_alloc w _ none) (by simp))
end

/-- What stands of the entries when k of them are laid. -/
def Part (w : World) (g B m k : Nat) (ds : List Nat) : Prop :=
  ∃ cs, Blk w g 35 cs ∧ cs.length = 4 * m ∧ ∀ (i n : Nat), i < k → ds[i]? = some n → cs[i * 4 + 2]? = some (.int .u64 (i : Int)) ∧ cs[i * 4 + 3]? = some (.slice (some ⟨B, 0, none⟩) n n)

theorem build_big (ao : Option Addr) (n c : Nat) (w : World) (hn : 512 < n) :
    Calls Ybad.prog 5 #[.slice ao n c] w (fun e w' => e = .returned (.tuple #[.slice none 0 0, .bool false]) ∧ w' = w) := by
  go_enter Ybad.func5, Ybad.ntmps5
  go_wp2
  go_ret2
  exact ⟨rfl, rfl⟩

/-- The walk through build, up to the loop. -/
theorem build_small (ao : Option Addr) (n c : Nat) (zs : List Int) (w : World) (hn : n ≤ 512) (lz : zs.length = n) (hr : Rd w ao (zs.map (Value.int .u8))) (hz : ∀ z ∈ zs, 0 ≤ z ∧ z < 256)
    (hv : w.cell? ⟨0, 0, none⟩ = some (.int .i64 262144)) :
    Calls Ybad.prog 5 #[.slice ao n c] w (fun e w' => ∃ g, w.heap.size < g ∧ g < w'.heap.size ∧ e = .returned (.tuple #[.slice (some ⟨g, 0, none⟩) n n, .bool true]) ∧ Ents w' g w.heap.size (zs.map szOf) ∧ Keep [] w w') := by
  obtain ⟨i0, hi, hz0, hz1, hz2⟩ := info_parts info5
  obtain ⟨i1, hi1, hy⟩ := Option.map_eq_some_iff.1 info35
  obtain ⟨hy0, hy1, hy2⟩ : i1.zero.isSome = true ∧ i1.size = 4 ∧ i1.bytes = 56 := by simpa using hy
  obtain ⟨zv, hzv⟩ := Option.isSome_iff_exists.1 hy0
  go_enter Ybad.func5, Ybad.ntmps5
  go_wp2_with (at_make; refine halt ?_)
  refine unhalt ?_
  refine wpList_mk _ rfl _ _ 22 rfl 5 i0 (.int .u8 0) Ybad.underlying22 hi hz0 hz1 rfl .i64 .i64 524296 524296 524296 524296 rfl rfl (by omega) (by omega) (by omega) (by rw [hz2]; omega) (by unfold maxLen; omega) ?_
  intro w1 hB1 hg1 hs1
  go_wp2_with (at_make; refine halt ?_)
  refine unhalt ?_
  refine wpList_mk' _ rfl _ _ 23 rfl 35 i1 zv Ybad.underlying23 hi1 hzv .i64 .i64 n n n n rfl rfl rfl rfl (Nat.le_refl _) (by rw [hy2]; omega) (by unfold maxLen; omega) ?_
  intro w2 cs hcs hB2 hg2 hs2
  rw [hy1] at hcs
  have k2 : Keep [] w w2 := ((Keep.refl [] w).grown hg1 (by simp)).grown hg2 (by simp)
  obtain ⟨g, hg⟩ : ∃ g, g = w1.heap.size := ⟨_, rfl⟩
  rw [← hg] at hB2 ⊢
  have P2 : Part w2 g w.heap.size n 0 (zs.map szOf) := ⟨cs, hB2, by omega, fun i n hi => by omega⟩
  have hgg : w.heap.size < g := by omega
  clear hB2 hB1 hg1 hg2 hs1 hs2 hcs hg
  go_wp2
  go_loopw [32] (fun v wr => ∃ j : Nat, j ≤ n ∧ v = .int .i64 j ∧ Part wr g w.heap.size n j (zs.map szOf) ∧ Keep [] w wr) (fun v _ => n - (intOf v).toNat)
  case atStart => exact ⟨0, Nat.zero_le _, rfl, P2, k2⟩
  case round =>
    obtain ⟨j, hj, rfl, ⟨cs, hB, lcs, hcs⟩, kr⟩ := hrel
    by_cases hjl : j < n
    · obtain ⟨z, hzj⟩ : ∃ z, zs[j]? = some z := ⟨zs[j]'(by omega), List.getElem?_eq_getElem (by omega)⟩
      obtain ⟨x, rfl⟩ : ∃ x, ao = some x := by
        cases ao with
        | none => have := hr.1 rfl; simp at this; subst this; simp at hzj
        | some x => exact ⟨x, rfl⟩
      have cz : wr.cell? (x.add j) = some (.int .u8 z) := (kr.rd hr (by simp)).2 x rfl j _ (by rw [List.getElem?_map, hzj]; rfl)
      obtain ⟨z1, z2⟩ := hz z (List.mem_of_getElem? hzj)
      have cg : ∀ k, k < 4 → ∃ v, wr.cell? ⟨g, j * 4 + k, none⟩ = some v := fun k hk => by
        rw [hB.cell]
        exact ⟨cs[j * 4 + k]'(by omega), List.getElem?_eq_getElem (by omega)⟩
      obtain ⟨v0, c0⟩ := cg 0 (by omega)
      obtain ⟨v1, c1⟩ := cg 1 (by omega)
      obtain ⟨v2, c2⟩ := cg 2 (by omega)
      obtain ⟨v3, c3⟩ := cg 3 (by omega)
      have f0 := hB.free (j * 4)
      have f1 := hB.free (j * 4 + 1)
      have f2 := hB.free (j * 4 + 2)
      have f3 := hB.free (j * 4 + 3)
      rw [Nat.add_zero] at c0
      go_wp2
      have hge : g < w.heap.size → g ∈ ([] : List Nat) := fun h => absurd h (by omega)
      refine ⟨⟨j + 1, by omega, by simp, ⟨_, (((hB.set _ _).set _ _).set _ _).set _ _, by simpa using lcs, fun i m hi him => ?_⟩, (((kr.setCell _ _ hge).setCell _ _ hge).setCell _ _ hge).setCell _ _ hge⟩, by simp [intOf]; omega⟩
      by_cases hij : i = j
      · subst hij
        rw [List.getElem?_map, hzj] at him
        simp only [Option.map_some, Option.some.injEq] at him
        have hm : (z % 8 * 65536 + z / 8 % 8).toNat = m := by
          rw [← him]; unfold szOf; omega
        constructor
        · rw [List.getElem?_set_ne (by omega), List.getElem?_set_self (by simp; omega)]
        · rw [List.getElem?_set_self (by simp; omega), hm]
      · have := hcs i m (by omega) him
        constructor
        · rw [List.getElem?_set_ne (by omega), List.getElem?_set_ne (by omega), List.getElem?_set_ne (by omega), List.getElem?_set_ne (by omega)]; exact this.1
        · rw [List.getElem?_set_ne (by omega), List.getElem?_set_ne (by omega), List.getElem?_set_ne (by omega), List.getElem?_set_ne (by omega)]; exact this.2
    · go_wp2
      go_ret2
      obtain rfl : j = n := by omega
      exact ⟨g, hgg, hB.lt, rfl, fun i n hi => by
        have hlt := (List.getElem?_eq_some_iff.1 hi).1
        rw [hB.cell, hB.cell]
        exact hcs i n (by simp at hlt; omega) hi, kr⟩
end Go.Proofs.YbulkdfzeDoor
