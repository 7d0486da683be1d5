import Derived.Test.YbulkdfzeIter
import Derived.Deep.RegionLaw
namespace Go.Proofs.Ybulkdfze
open Go Go.RowKit Go.Lib
section
variable {P : Program} {ops : Array Oper} {Q : Exit → Act → World → Prop} {o : Oper} {a : Act} (w : World)
theorem step_call {K : Act → World → Prop} {E : Prop} (hgd : o.guard = none) (f : FuncId) (x : Operand) (t : TypeId) (ho : o.op = .call { callee := .value (.func f), args := #[x], argTypes := #[t] })
    (v : Value) (hx : a.eval x = v) (eg : ∀ args w, (callFunc f args).run P w = .ok (.enter f args) w) (R : Ending → World → Prop) (hc : Calls P f #[v] w R)
    (h : ∀ e w', R e w' → ∃ u, e = .returned u ∧ K (a.put o.dst u) w') : if Region.wanted o (yielded ops a.tmps) = true then Oper.wp P o a w K Q else E := by
  have hw : Region.wanted o (yielded ops a.tmps) = true := by simp [Region.wanted, hgd]
  rw [if_pos hw]
  unfold Oper.wp execOp
  simp only [ho]
  subst hx
  have he : ∀ (a : Act), a.eval (.func f) = .func (.func f) #[] #[] := fun _ => rfl
  simp only [resolve, invoke, Sem.run_bind, Sem.run_pure, Result.andThen_ok, List.map_toArray, List.map_cons, List.map_nil, he, Deferred.ofValue, eg, Array.append_empty]
  simp only [Oper.upon_enter]
  refine Calls.mono hc fun e w' hR => ?_
  obtain ⟨u, rfl, hk⟩ := h e w' hR
  exact hk
end
end Go.Proofs.Ybulkdfze
