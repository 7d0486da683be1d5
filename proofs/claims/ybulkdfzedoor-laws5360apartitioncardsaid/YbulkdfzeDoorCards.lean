/-
  DERIVED. GIVEN WITH THE SEED: THE CARDS: each row of YbulkdfzeDoorRows.lean that lists a variable, with what it lists TIED to the program's text (the seventh form; the later family's looks); each row that meets fmt, with fmt's text TOLD by the authors' own Lean function (tested against real Go, not proved from fmt's source: count such statements apart). THE CARD IS WHAT COUNTS. Prove the row's statement (the work); the ties are given (YbulkdfzeDoorTie.lean); close each card by the builder's one call (the guide's Derived/Test/ToyasCard.lean, 'card_holds'). Laid BY PROGRAM, IN A SANDBOX (cutbox-door.mjs). By AI agents, Wed Nov 11 2026. No macro, syntax, notation, axiom, sorry.
-/
import Derived.Test.YbulkdfzeDoorRows
import GoSem.ClaimSeven
namespace Go.Proofs.YbulkdfzeDoor
namespace Rows

/-- THE TIED CARD OF 'quorum.LawS5360APartition'. -/
def lawS5360APartitionCard : Claim7 := { stood := { row := lawS5360APartitionRow, standIns := [], harness := (true, "dcb3235b2898452cf5c8ff8a7b83de3bc020e5e99ed346ea29a40a8868335ac1"), looks := false }, kinds := [], alts := [], laidByText := true, laidKinds := [.data], laidTests := true, laidLooks := .later }
def LawS5360APartitionCardSaid : Prop := Claim7.holds Ybad.pinned (.plain (OpenSpec.ofChange lawS5360APartitionSpec)) lawS5360APartitionCard

/-- THE TIED CARD OF 'quorum.LawS5360AStop'. -/
def lawS5360AStopCard : Claim7 := { stood := { row := lawS5360AStopRow, standIns := [], harness := (true, "dcb3235b2898452cf5c8ff8a7b83de3bc020e5e99ed346ea29a40a8868335ac1"), looks := false }, kinds := [], alts := [], laidByText := true, laidKinds := [.data], laidTests := true, laidLooks := .later }
def LawS5360AStopCardSaid : Prop := Claim7.holds Ybad.pinned (.plain (OpenSpec.ofChange lawS5360AStopSpec)) lawS5360AStopCard
end Rows
end Go.Proofs.YbulkdfzeDoor
