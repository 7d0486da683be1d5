/-
  OWN WORK: a range over a function whose body never leaves the loop, and whose iterator keeps its state in cells of its own. Two laws, out of the library's 'wpIn_rangeFunc' and 'roundIn_of_wpIn'. No project text.
-/
import Derived.RangeFuncNested
import Derived.RangeFuncBound
import Derived.RangeFuncCalls
import Derived.RangeFuncLeaves
import Derived.Test.YbulkdfzeDoorBlocks
namespace Go.Proofs.YbulkdfzeDoor
open Go Go.RowKit

/-- A block turned whole. -/
theorem Keep.putObj {S : List Nat} {w w1 : World} (h : Keep S w w1) (k : Nat) (o : Obj) (hk : k < w.heap.size → k ∈ S) : Keep S w (w1.putObj k o) :=
  h.grown (r := some k) (grownBy_putObj' w1 k o) (fun j e hlt => by cases e; exact hk hlt)
theorem Blk.putObj {w : World} {g : Nat} {e : TypeId} {cs : List Value} (h : Blk w g e cs) (k : Nat) (o : Obj) (hne : k ≠ g) : Blk (w.putObj k o) g e cs :=
  h.of (World.putObj_heap_other (by omega))

variable {m : Nat} {P : Program}

/-- The loop, where the function that is ranged over leaves the record as it found it. -/
theorem range_mine {g : Operand} {ps : Array Tmp} {assign body : Code} {Q : Exit → Act → World → Prop} {a : Act} {w : World} {gf : Nat} {lb : Array Value}
    (hg : a.eval g = .func (.func gf) #[] lb) (eg : ∀ args w, (callFunc gf args).run P w = .ok (.enter gf args) w) (Post : World → Prop)
    (rounds : ∀ r : Loop, r.state = .ready → r.pending = none → r.tmps = a.tmps → r.params = ps → r.assign = assign → r.body = body →
      CallsIn Fence.wide (m - 1) P gf (#[.func (.yield (w.heap.size + 1)) #[] #[]] ++ lb) ((w.alloc (.deferred (some []))).alloc (.loop r))
        fun e W' => (∃ v, e = .returned v) ∧ W'.heap[w.heap.size + 1]? = some (.loop r) ∧ Post W')
    (after : ∀ r W', W'.heap[w.heap.size + 1]? = some (.loop r) → Post W' → Q .normal { a with defers := { target := .collected w.heap.size, args := #[] } :: a.defers } (W'.putObj (w.heap.size + 1) (.loop { r with state := .exhausted }))) :
    (Code.rangeFunc g ps assign body).wpIn Fence.wide m P Q a w := by
  refine wpIn_rangeFunc fun fn _ => ?_
  have hres : (resolve a.eval (rangeCall g (w.heap.size + 1)) 0).run P ((w.alloc (.deferred (some []))).alloc (.loop { state := .ready, pending := none, fn, tmps := a.tmps, params := ps, assign, body, defers := w.heap.size })) =
      .ok { target := .fn (.func gf) lb, args := #[.func (.yield (w.heap.size + 1)) #[] #[]] } ((w.alloc (.deferred (some []))).alloc (.loop { state := .ready, pending := none, fn, tmps := a.tmps, params := ps, assign, body, defers := w.heap.size })) := by
    simp only [resolve, hg]
    simp [go_sem]
  refine ⟨_, _, _, _, _, gf, _, _, run_enterLoop_outer fn a.tmps ps assign body, hres, fun _ _ => trivial, by simp [invoke, go_sem, eg]; exact ⟨rfl, rfl⟩, fun h => absurd h (by simp [Fence.wide]), ?_⟩
  refine (rounds _ rfl rfl rfl rfl rfl rfl).mono ?_
  rintro e W' ⟨⟨v, rfl⟩, hl, hp⟩
  exact ⟨none, _, run_endLoop hl (by simp), after _ W' hl hp⟩

/-- One round. -/
theorem yield_mine {l : Nat} {r : Loop} {args : Array Value} {W : World} {R : World → Prop} {assign body : Code} {ps : Array Tmp} {tmps : Array Value} (hl : W.heap[l]? = some (.loop r)) (hs : r.state = .ready) (hp : r.pending = none)
    (ha : r.assign = assign) (hb : r.body = body) (hps : r.params = ps) (ht : r.tmps = tmps) (hsz : args.size = ps.size)
    (h : ∀ rb : Loop, Hid (rb = { r with state := .busy }) → assign.wpIn (Fence.wide.inRound l) m P (Exit.then (fun a1 w1 => w1.heap[l]? = some (.loop r) ∧
        body.wpIn (Fence.wide.inRound l) m P (fun e _ W' => e = .normal ∧ W'.heap[l]? = some (.loop rb) ∧ R (W'.putObj l (.loop r))) a1 (w1.putObj l (.loop rb))) (fun _ _ _ => False))
      { tmps := (ps.zip args).foldl (fun tmps (t, a) => tmps.setIfInBounds t a) tmps, defers := [] } W) :
    YieldAt Fence.wide m P l args W fun e W' => e = .returned (.bool true) ∧ R W' := by
  subst ha hb hps ht
  replace h := h _ rfl
  refine ⟨_, _, _, _, run_yield hl hsz, roundIn_of_wpIn trivial (wpIn_mono h ?_)⟩
  rintro e a1 w1 h1
  cases e with
  | normal =>
    obtain ⟨hl1, hb⟩ := h1
    refine ⟨_, run_beginRound hl1 hs, wpIn_mono hb ?_⟩
    rintro e a2 W' ⟨rfl, hl2, hR⟩
    refine ⟨_, _, run_endRound none hl2, rfl, ?_⟩
    have : ({ { r with state := .busy } with state := if (none : Option Code).isNone then .ready else .done, pending := none } : Loop) = r := by
      cases r; simp at hs hp; subst hs hp; rfl
    rw [this]
    exact hR
  | ret => exact h1.elim
  | exit id => exact h1.elim
  | goto t => exact h1.elim
  | panic c => exact h1.elim
  | outgrown => exact h1.elim
end Go.Proofs.YbulkdfzeDoor
