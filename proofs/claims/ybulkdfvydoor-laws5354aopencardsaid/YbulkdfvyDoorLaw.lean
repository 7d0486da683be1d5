import Derived.Test.YbulkdfvyDoorOpener2
import Derived.LaidEql
namespace Go.Proofs.YbulkdfvyDoor
open Go Go.RowKit

theorem bytesEqual (v1 v2 : Value) (xs ys : List Int) (w : World)
    (h1 : (convert 22 9 v1).run Ybad.prog w = .ok (.string (strOfNums xs)) w) (h2 : (convert 22 9 v2).run Ybad.prog w = .ok (.string (strOfNums ys)) w) :
    Calls Ybad.prog 5 #[v1, v2] w fun e w' => e = .returned (.bool (Lib.bytesOf xs == Lib.bytesOf ys)) ∧ w' = w := by
  rw [← Lib.strOfNums_toList, ← Lib.strOfNums_toList]
  go_enter Ybad.func5, Ybad.ntmps5
  go_wp2
  go_ret
  exact ⟨rfl, rfl⟩

/-- Two slices of the same bytes: true. -/
theorem equal_same (b1 o1 n1 c1 b2 o2 n2 c2 : Nat) (xs : List Int) (w : World) (h1 : Rd w (some ⟨b1, o1, none⟩) (xs.map (Value.int .u8))) (h2 : Rd w (some ⟨b2, o2, none⟩) (xs.map (Value.int .u8))) (l1 : xs.length = n1) (l2 : xs.length = n2) :
    Calls Ybad.prog 5 #[.slice (some ⟨b1, o1, none⟩) n1 c1, .slice (some ⟨b2, o2, none⟩) n2 c2] w fun e w' => e = .returned (.bool true) ∧ w' = w := by
  have conv : ∀ b o n c : Nat, Rd w (some ⟨b, o, none⟩) (xs.map (Value.int .u8)) → xs.length = n → (convert 22 9 (.slice (some ⟨b, o, none⟩) n c)).run Ybad.prog w = .ok (.string (strOfNums xs)) w := by
    intro b o n c h hl
    refine run_convert_bytes_arg w 22 5 Ybad.underlying22 Ybad.underlying5 b o n c xs hl (fun i hi => ?_) 9 Ybad.underlying9
    have := h.2 _ rfl i (.int .u8 (xs.getD i 0)) (by simp [show i < xs.length by omega])
    rwa [Addr.add_lit] at this
  refine (bytesEqual _ _ xs xs w (conv _ _ _ _ h1 l1) (conv _ _ _ _ h2 l2)).mono fun e w' h => ?_
  simpa using h
end Go.Proofs.YbulkdfvyDoor
