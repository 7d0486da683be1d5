/-
  OWN WORK: a region that draws its order and only reads, within a round of a range over a function: the library's quiet law asks that no round is under way; an operation that is no 'defer' is carried out in a round as everywhere. No project text.
-/
import Derived.Sort.QuietIn
import Derived.WalkKit
namespace Go.Proofs.YbulkdfzeDoor
open Go Go.RowKit
variable {n l : Nat} {P : Program} {md : Region.Mode} {ops : Array Oper} {Q : Exit → Act → World → Prop}

def noDefer (o : Oper) : Bool := match o.op with | .defer _ => false | _ => true

theorem wpOpIn_round (hnd : ∀ (i : Nat) o, ops[i]? = some o → noDefer o = true) {i : Nat} {K : Act → World → Prop} {a : Act} {w : World} (h : wpOpIn Fence.wide n P ops Q i K a w) : wpOpIn (Fence.wide.inRound l) n P ops Q i K a w := by
  unfold wpOpIn at h ⊢
  cases ho : ops[i]? with
  | none => simpa [ho] using h
  | some o =>
    simp only [ho] at h ⊢
    have hd : ∀ c, o.op ≠ .defer c := fun c e => by have := hnd i o ho; simp [noDefer, e] at this
    split at h
    · rename_i hw
      rw [if_pos hw]
      refine ⟨h.1, ?_⟩
      have h2 := h.2
      rw [Oper.semAt_eq _ _ _ hd] at h2 ⊢
      exact h2
    · rename_i hw
      rw [if_neg hw]
      exact h

theorem wpAnyIn_round (hnd : ∀ (i : Nat) o, ops[i]? = some o → noDefer o = true) : ∀ (fuel : Nat) (listed : Array Bool) (a : Act) (w : World), wpAnyIn Fence.wide n P md ops Q fuel listed a w → wpAnyIn (Fence.wide.inRound l) n P md ops Q fuel listed a w
  | 0, _, _, _, h => h
  | fuel + 1, _, _, _, h => ⟨h.1, fun i hi => wpOpIn_round hnd (wpOpIn_mono (fun a w => wpAnyIn_round hnd fuel _ a w) (h.2 i hi))⟩

theorem region_quiet_round {id : Nat} {a : Act} {w : World} {L : List Oper} (hm : P.follows .mixedOrders = true) (hB : Region.lexB .any L.toArray = true) (hnd : L.all noDefer = true)
    (h : wpQuietIn Fence.wide n P L.toArray (fun w' => ∃ n, w' = w.drewN n) (fun a' => ∀ w', (∃ n, w' = w.drewN n) → Q .normal a' w') L a) : (Code.region id L.toArray true).wpIn (Fence.wide.inRound l) n P Q a w := by
  have hnd' : ∀ (i : Nat) o, L.toArray[i]? = some o → noDefer o = true := fun i o ho => List.all_eq_true.1 hnd o (List.mem_of_getElem? (by simpa using ho))
  simp only [Region.lexB, Bool.and_eq_true] at hB
  refine wpIn_region_any hm (wpAnyIn_round hnd' _ _ _ _ (wpAnyIn_of_quiet (C := fun w' => ∃ n, w' = w.drewN n) (Q := fun a' => ∀ w', (∃ n, w' = w.drewN n) → Q .normal a' w') rfl (fun _ w' hw' h => h w' hw') _ _ _ _ ⟨1, rfl⟩ ?_))
  have := wpAnyQIn_lex (F := Fence.wide) (n := n) (C := fun w' => ∃ n, w' = w.drewN n) (md := .any) hB.1 L.toArray.toList 0 (Array.replicate L.toArray.size false) a (by simp) (by simpa using hB.2) (by simpa using h)
  simpa using this
end Go.Proofs.YbulkdfzeDoor
