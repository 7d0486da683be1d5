/-
  No cell of these rows narrows 'for every input' (looked for: loops, veiled, ifaces, maps, wideKeys, modest, calm, conditions, laid).
  DERIVED. THE GIVEN ROWS OF THIS SEAT. 3 by the template 'for every input the law returns true; each argument reads behind the call as it read before'; 0 by the template 'total and deterministic' (their statements: YbulkdfxaTotals.lean).
  GIVEN WITH THE SEED: the statements are not yours to turn. If you find one false, say at which input.
  Laid BY PROGRAM, IN A SANDBOX (cutbox-rows.mjs): the forced cells as the released guide's own fill.sh prints them over the translation cf1c4a5fc1c9f8b5… (all of the seat's roots in one cut). By AI agents, Wed Nov 11 2026. No macro, syntax, notation, axiom, sorry.
-/
import Derived.Test.YbulkdfxaChecked
import GoSem.Claim
import GoSem.ClaimJoined
import GoSem.ClaimMapViews
import Derived.JoinedTies
import Derived.KernelRfl
namespace Go.Proofs.Ybulkdfxa
/- THE CELL 'sum', in the pinned program and in every row, IS THE sha256 OF THE DUMP (.gsa) THAT YbulkdfxaProg.lean LOADS. Nothing in Lean hashes anything: it is a label: what it is worth is what the hold of that sum in a sandbox is worth. -/
noncomputable def Yba.pinned : Pinned := { name := "ybulkdfxa", sum := "cf1c4a5fc1c9f8b50643b79582177ec1ffec2a4bac107ea6da7c823ad7cb7956", checked := Yba.checked }
namespace Rows
def none {H : Type} : Left H := { results := [], args := [] }

/-- 'otlphttp.LawS5356BModel': WHATEVER THE INPUT: true; the input reads as it did. -/
def lawS5356BModelSpec : ChangeSpec := { name := "lawS5356BModel", fn := fun _ => fun
  | [d] => { results := [.lit (.bool true)], args := [d] }
  | _ => none }
def lawS5356BModelRow : OpenClaim := { program := "ybulkdfxa", sum := "cf1c4a5fc1c9f8b50643b79582177ec1ffec2a4bac107ea6da7c823ad7cb7956", func := "example.com/tracewright/tracewright/exporters/otlphttp.LawS5356BModel", spec := "lawS5356BModel", apart := false }
def LawS5356BModelSaid : Prop := lawS5356BModelRow.holds Yba.pinned (OpenSpec.ofChange lawS5356BModelSpec)

/-- ITS FALSE NEIGHBOUR: 'it returns false'. Refute it at one input. -/
def lawS5356BModelWrong : ChangeSpec := { name := "lawS5356BModel", fn := fun _ => fun
  | [d] => { results := [.lit (.bool false)], args := [d] }
  | _ => none }
def LawS5356BModelWrongFalsely : Prop := lawS5356BModelRow.holds Yba.pinned (OpenSpec.ofChange lawS5356BModelWrong)

/-- 'otlphttp.LawS5356BInsert': WHATEVER THE INPUT: true; the input reads as it did. -/
def lawS5356BInsertSpec : ChangeSpec := { name := "lawS5356BInsert", fn := fun _ => fun
  | [d1, d2, d3] => { results := [.lit (.bool true)], args := [d1, d2, d3] }
  | _ => none }
def lawS5356BInsertRow : OpenClaim := { program := "ybulkdfxa", sum := "cf1c4a5fc1c9f8b50643b79582177ec1ffec2a4bac107ea6da7c823ad7cb7956", func := "example.com/tracewright/tracewright/exporters/otlphttp.LawS5356BInsert", spec := "lawS5356BInsert", apart := false }
def LawS5356BInsertSaid : Prop := lawS5356BInsertRow.holds Yba.pinned (OpenSpec.ofChange lawS5356BInsertSpec)

/-- ITS FALSE NEIGHBOUR: 'it returns false'. Refute it at one input. -/
def lawS5356BInsertWrong : ChangeSpec := { name := "lawS5356BInsert", fn := fun _ => fun
  | [d1, d2, d3] => { results := [.lit (.bool false)], args := [d1, d2, d3] }
  | _ => none }
def LawS5356BInsertWrongFalsely : Prop := lawS5356BInsertRow.holds Yba.pinned (OpenSpec.ofChange lawS5356BInsertWrong)

/-- 'tracewright.LawS5356CConcat': WHATEVER THE INPUT: true; the input reads as it did. -/
def lawS5356CConcatSpec : ChangeSpec := { name := "lawS5356CConcat", fn := fun _ => fun
  | [d1, d2] => { results := [.lit (.bool true)], args := [d1, d2] }
  | _ => none }
def lawS5356CConcatRow : OpenClaim := { program := "ybulkdfxa", sum := "cf1c4a5fc1c9f8b50643b79582177ec1ffec2a4bac107ea6da7c823ad7cb7956", func := "example.com/tracewright/tracewright.LawS5356CConcat", spec := "lawS5356CConcat", apart := false }
def LawS5356CConcatSaid : Prop := lawS5356CConcatRow.holds Yba.pinned (OpenSpec.ofChange lawS5356CConcatSpec)

/-- ITS FALSE NEIGHBOUR: 'it returns false'. Refute it at one input. -/
def lawS5356CConcatWrong : ChangeSpec := { name := "lawS5356CConcat", fn := fun _ => fun
  | [d1, d2] => { results := [.lit (.bool false)], args := [d1, d2] }
  | _ => none }
def LawS5356CConcatWrongFalsely : Prop := lawS5356CConcatRow.holds Yba.pinned (OpenSpec.ofChange lawS5356CConcatWrong)

end Rows
end Go.Proofs.Ybulkdfxa
