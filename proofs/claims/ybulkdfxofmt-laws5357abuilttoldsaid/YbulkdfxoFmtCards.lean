/-
  DERIVED. GIVEN WITH THE SEED: THE CARDS: each row of YbulkdfxoFmtRows.lean that lists a variable, with what it lists TIED to the program's text (the seventh form; the later family's looks); each row that meets fmt, with fmt's text TOLD by the authors' own Lean function (tested against real Go, not proved from fmt's source: count such statements apart). THE CARD IS WHAT COUNTS. Prove the row's statement (the work); the ties are given (YbulkdfxoFmtTie.lean); close each card by the builder's one call (the guide's Derived/Test/ToyasCard.lean, 'card_holds'). Laid BY PROGRAM, IN A SANDBOX (cutbox-door.mjs). By AI agents, Wed Nov 11 2026. No macro, syntax, notation, axiom, sorry.
-/
import Derived.Test.YbulkdfxoFmtRows
import GoSem.ClaimSeven
namespace Go.Proofs.YbulkdfxoFmt
namespace Rows

/-- THE TOLD CARD OF 'icao.LawS5357AAny'. -/
def lawS5357AAnyCard : Claim7 := { stood := { row := lawS5357AAnyRow, standIns := [], harness := (true, "4850fec1c5d45fefd5d6829436b202f9716cfc659540e12428f19fcfb4b38173"), looks := false }, told := true, goes := false }
def LawS5357AAnyToldSaid : Prop := Claim7.holds Ybaf.pinned (.plain (OpenSpec.ofChange lawS5357AAnySpec)) lawS5357AAnyCard
/-- ITS FALSE NEIGHBOUR. Refute it at one input. -/
def LawS5357AAnyToldWrongFalsely : Prop := Claim7.holds Ybaf.pinned (.plain (OpenSpec.ofChange lawS5357AAnyWrong)) lawS5357AAnyCard

/-- THE TOLD CARD OF 'icao.LawS5357ABuilt'. -/
def lawS5357ABuiltCard : Claim7 := { stood := { row := lawS5357ABuiltRow, standIns := [], harness := (true, "4850fec1c5d45fefd5d6829436b202f9716cfc659540e12428f19fcfb4b38173"), looks := false }, told := true, goes := false }
def LawS5357ABuiltToldSaid : Prop := Claim7.holds Ybaf.pinned (.plain (OpenSpec.ofChange lawS5357ABuiltSpec)) lawS5357ABuiltCard
/-- ITS FALSE NEIGHBOUR. Refute it at one input. -/
def LawS5357ABuiltToldWrongFalsely : Prop := Claim7.holds Ybaf.pinned (.plain (OpenSpec.ofChange lawS5357ABuiltWrong)) lawS5357ABuiltCard
end Rows
end Go.Proofs.YbulkdfxoFmt
