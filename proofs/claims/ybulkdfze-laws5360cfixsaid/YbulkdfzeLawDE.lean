import Derived.Test.YbulkdfzeLawDD
namespace Go.Proofs.Ybulkdfze
open Go Go.RowKit Go.Lib Go.Shelf
theorem ins91 (w : World) (YB : Nat) (val : Value) (hM : w.heap[YB]? = some (.map #[] 0)) :
    ∃ w2, (Instr.mapUpdate 91 (.map (some YB)) chV val).run Yba.prog w = .ok () w2 ∧ w2.heap[YB]? = some (.map #[{ key := chV, val := val, born := 0 }] 1) ∧ Keep [YB] w w2 := by
  have hg : (getObj YB).run Yba.prog w = .ok (.map #[] 0) w := by simp [getObj, Sem.run, hM]
  have hck : (Instr.checkKey false 10000 33 chV).run Yba.prog w = .ok () w := check33 w 9998 _ _ _
  have hs : ∀ o, (setObj YB o).run Yba.prog w = .ok () (w.putObj YB o) := fun o => by simp [setObj, Sem.run, hM, World.putObj]
  have hlt : YB < w.heap.size := (Array.getElem?_eq_some_iff.1 hM).1
  refine ⟨w.putObj YB (.map #[{ key := chV, val := val, born := 0 }] 1), ?_, by simp [World.putObj, hlt], ⟨rfl, rfl, rfl, by simp [World.putObj], fun k hk hne => ?_⟩⟩
  · unfold Instr.mapUpdate
    simp [Instr.findKey, Instr.findNow, run_underlying Yba.underlying91, run_underlying Yba.underlying33, hg, hck, hs]
  · simp only [List.mem_singleton] at hne
    simp [World.putObj, Array.getElem?_setIfInBounds_ne (fun e => hne e.symm)]
/-- The end-point. -/
structure EcOk (ec : List Value) (sn : ByteArray) (SB DB KM YB HR n NB on oc : Nat) (oao : Option Addr) : Prop where
  e0 : ec[0]? = some (.string sn)
  e6 : ec[6]? = some (.func (.func 4) #[] #[.pointer (some ⟨SB, 0, none⟩)])
  e7 : ec[7]? = some (.func (.func 7) #[] #[.pointer (some ⟨DB, 0, none⟩)])
  e12 : ec[12]? = some (.string vone)
  e13 : ec[13]? = some (.slice oao on oc)
  e27 : ec[27]? = some (.map (some KM))
  e41 : ec[41]? = some (.map (some YB))
  e42 : ec[42]? = some (.slice (some ⟨HR, 0, none⟩) n n)
  e43 : ec[43]? = some (.pointer (some ⟨NB, 0, none⟩))
  e49 : ec[49]? = some (.int .i64 0)
  e50 : ec[50]? = some (.slice none 0 0)
end Go.Proofs.Ybulkdfze
