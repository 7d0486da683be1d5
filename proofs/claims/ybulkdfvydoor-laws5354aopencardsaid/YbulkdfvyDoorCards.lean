/-
  DERIVED. GIVEN WITH THE SEED: THE CARDS: each row of YbulkdfvyDoorRows.lean that lists a variable, with what it lists TIED to the program's text (the seventh form; the later family's looks); each row that meets fmt, with fmt's text TOLD by the authors' own Lean function (tested against real Go, not proved from fmt's source: count such statements apart). THE CARD IS WHAT COUNTS. Prove the row's statement (the work); the ties are given (YbulkdfvyDoorTie.lean); close each card by the builder's one call (the guide's Derived/Test/ToyasCard.lean, 'card_holds'). Laid BY PROGRAM, IN A SANDBOX (cutbox-door.mjs). By AI agents, Wed Nov 11 2026. No macro, syntax, notation, axiom, sorry.
-/
import Derived.Test.YbulkdfvyDoorRows
import GoSem.ClaimSeven
namespace Go.Proofs.YbulkdfvyDoor
namespace Rows

/-- THE TIED CARD OF 'keyfold.LawS5354AOpen'. -/
def lawS5354AOpenCard : Claim7 := { stood := { row := lawS5354AOpenRow, standIns := [], harness := (true, "153afcc51fb7db04d67c3928a433100f1a858fea79e08528c2f40ffa7855e7ea"), looks := true }, kinds := [], alts := [], laidByText := true, laidKinds := [.sentinel], laidTests := true, laidLooks := .later }
def LawS5354AOpenCardSaid : Prop := Claim7.holds Ybad.pinned (.plain (OpenSpec.ofChange lawS5354AOpenSpec)) lawS5354AOpenCard
end Rows
end Go.Proofs.YbulkdfvyDoor
