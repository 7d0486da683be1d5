/-
  No cell of these rows narrows 'for every input' (looked for: loops, veiled, ifaces, maps, wideKeys, modest, calm, conditions, laid).
  DERIVED. THE GIVEN ROWS OF THIS SEAT. 1 by the template 'for every input the law returns true; each argument reads behind the call as it read before'; 0 by the template 'total and deterministic' (their statements: YbulkdfzeTotals.lean).
  GIVEN WITH THE SEED: the statements are not yours to turn. If you find one false, say at which input.
  Laid BY PROGRAM, IN A SANDBOX (cutbox-rows.mjs): the forced cells as the released guide's own fill.sh prints them over the translation 20abb5549a16c9e4… (all of the seat's roots in one cut). By AI agents, Wed Nov 11 2026. No macro, syntax, notation, axiom, sorry.
-/
import Derived.Test.YbulkdfzeChecked
import GoSem.Claim
import GoSem.ClaimJoined
import GoSem.ClaimMapViews
import Derived.JoinedTies
import Derived.KernelRfl
namespace Go.Proofs.Ybulkdfze
/- THE CELL 'sum', in the pinned program and in every row, IS THE sha256 OF THE DUMP (.gsa) THAT YbulkdfzeProg.lean LOADS. Nothing in Lean hashes anything: it is a label: what it is worth is what the hold of that sum in a sandbox is worth. -/
noncomputable def Yba.pinned : Pinned := { name := "ybulkdfze", sum := "20abb5549a16c9e496935adeecf9fe482a6715cf9d34c8766614549a6a11dee4", checked := Yba.checked }
namespace Rows
def none {H : Type} : Left H := { results := [], args := [] }

/-- 'endpoint.LawS5360CFix': WHATEVER THE INPUT: true; the input reads as it did. -/
def lawS5360CFixSpec : ChangeSpec := { name := "lawS5360CFix", fn := fun _ => fun
  | [d1, d2, d3, d4, d5, d6] => { results := [.lit (.bool true)], args := [d1, d2, d3, d4, d5, d6] }
  | _ => none }
def lawS5360CFixRow : OpenClaim := { program := "ybulkdfze", sum := "20abb5549a16c9e496935adeecf9fe482a6715cf9d34c8766614549a6a11dee4", func := "example.com/convene/convene/internal/endpoint.LawS5360CFix", spec := "lawS5360CFix", unfollowed := true, recurses := true, plainKeys := false, apart := false }
def LawS5360CFixSaid : Prop := lawS5360CFixRow.holds Yba.pinned (OpenSpec.ofChange lawS5360CFixSpec)

/-- ITS FALSE NEIGHBOUR: 'it returns false'. Refute it at one input. -/
def lawS5360CFixWrong : ChangeSpec := { name := "lawS5360CFix", fn := fun _ => fun
  | [d1, d2, d3, d4, d5, d6] => { results := [.lit (.bool false)], args := [d1, d2, d3, d4, d5, d6] }
  | _ => none }
def LawS5360CFixWrongFalsely : Prop := lawS5360CFixRow.holds Yba.pinned (OpenSpec.ofChange lawS5360CFixWrong)

end Rows
end Go.Proofs.Ybulkdfze
