/-
  No cell of these rows narrows 'for every input' (looked for: loops, veiled, ifaces, maps, wideKeys, modest, calm, conditions, laid).
  DERIVED. THE GIVEN ROWS OF THIS SEAT. 2 by the template 'for every input the law returns true; each argument reads behind the call as it read before'; 0 by the template 'total and deterministic' (their statements: YbulkdfxoFmtTotals.lean).
  GIVEN WITH THE SEED: the statements are not yours to turn. If you find one false, say at which input.
  Laid BY PROGRAM, IN A SANDBOX (cutbox-rows.mjs): the forced cells as the released guide's own fill.sh prints them over the translation 68f51b244355fbea… (all of the seat's roots in one cut). By AI agents, Wed Nov 11 2026. No macro, syntax, notation, axiom, sorry.
-/
import Derived.Test.YbulkdfxoFmtChecked
import GoSem.Claim
import GoSem.ClaimJoined
import GoSem.ClaimMapViews
import Derived.JoinedTies
import Derived.KernelRfl
namespace Go.Proofs.YbulkdfxoFmt
/- THE CELL 'sum', in the pinned program and in every row, IS THE sha256 OF THE DUMP (.gsa) THAT YbulkdfxoFmtProg.lean LOADS. Nothing in Lean hashes anything: it is a label: what it is worth is what the hold of that sum in a sandbox is worth. -/
noncomputable def Ybaf.pinned : Pinned := { name := "ybulkdfxofmt", sum := "68f51b244355fbea09f584ceb678745427f5dbc7400bfb89b0034cb599d3679f", checked := Ybaf.checked }
namespace Rows
def none {H : Type} : Left H := { results := [], args := [] }

/-- 'icao.LawS5357AAny': WHATEVER THE INPUT: true; the input reads as it did. -/
def lawS5357AAnySpec : ChangeSpec := { name := "lawS5357AAny", fn := fun _ => fun
  | [d] => { results := [.lit (.bool true)], args := [d] }
  | _ => none }
def lawS5357AAnyRow : OpenClaim := { program := "ybulkdfxofmt", sum := "68f51b244355fbea09f584ceb678745427f5dbc7400bfb89b0034cb599d3679f", func := "example.com/planwire/planwire/icao.LawS5357AAny", spec := "lawS5357AAny", stops := ["fmt.errorf"], inPlace := ["fmt.errorf"], apart := false }
/-- NO THEOREM (fmt's text is open here; it may be false): for the released tool's asking of the row's closed facts alone. THE STATEMENT IS 'LawS5357AAnyToldSaid' (YbulkdfxoFmtCards.lean). -/
def LawS5357AAnyFormAsk : Prop := lawS5357AAnyRow.holds Ybaf.pinned (OpenSpec.ofChange lawS5357AAnySpec)

/-- ITS FALSE NEIGHBOUR: 'it returns false'. Refute it at one input. -/
def lawS5357AAnyWrong : ChangeSpec := { name := "lawS5357AAny", fn := fun _ => fun
  | [d] => { results := [.lit (.bool false)], args := [d] }
  | _ => none }
def LawS5357AAnyWrongFormAsk : Prop := lawS5357AAnyRow.holds Ybaf.pinned (OpenSpec.ofChange lawS5357AAnyWrong)

/-- 'icao.LawS5357ABuilt': WHATEVER THE INPUT: true; the input reads as it did. -/
def lawS5357ABuiltSpec : ChangeSpec := { name := "lawS5357ABuilt", fn := fun _ => fun
  | [d1, d2] => { results := [.lit (.bool true)], args := [d1, d2] }
  | _ => none }
def lawS5357ABuiltRow : OpenClaim := { program := "ybulkdfxofmt", sum := "68f51b244355fbea09f584ceb678745427f5dbc7400bfb89b0034cb599d3679f", func := "example.com/planwire/planwire/icao.LawS5357ABuilt", spec := "lawS5357ABuilt", stops := ["fmt.errorf"], inPlace := ["fmt.errorf"], apart := false }
/-- NO THEOREM (fmt's text is open here; it may be false): for the released tool's asking of the row's closed facts alone. THE STATEMENT IS 'LawS5357ABuiltToldSaid' (YbulkdfxoFmtCards.lean). -/
def LawS5357ABuiltFormAsk : Prop := lawS5357ABuiltRow.holds Ybaf.pinned (OpenSpec.ofChange lawS5357ABuiltSpec)

/-- ITS FALSE NEIGHBOUR: 'it returns false'. Refute it at one input. -/
def lawS5357ABuiltWrong : ChangeSpec := { name := "lawS5357ABuilt", fn := fun _ => fun
  | [d1, d2] => { results := [.lit (.bool false)], args := [d1, d2] }
  | _ => none }
def LawS5357ABuiltWrongFormAsk : Prop := lawS5357ABuiltRow.holds Ybaf.pinned (OpenSpec.ofChange lawS5357ABuiltWrong)

end Rows
end Go.Proofs.YbulkdfxoFmt
