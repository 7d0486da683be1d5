/-
  NARROWER THAN 'FOR EVERY INPUT', by the rows' own cells (each row's printed sentence says how): LawS5354AOpen: ifaces, laid.
  DERIVED. THE GIVEN ROWS OF THIS SEAT. 1 by the template 'for every input the law returns true; each argument reads behind the call as it read before'; 0 by the template 'total and deterministic' (their statements: YbulkdfvyDoorTotals.lean).
  GIVEN WITH THE SEED: the statements are not yours to turn. If you find one false, say at which input.
  Laid BY PROGRAM, IN A SANDBOX (cutbox-rows.mjs): the forced cells as the released guide's own fill.sh prints them over the translation b2f3d9c6dca3b1d1… (all of the seat's roots in one cut). By AI agents, Wed Nov 11 2026. No macro, syntax, notation, axiom, sorry.
-/
import Derived.Test.YbulkdfvyDoorChecked
import GoSem.Claim
import GoSem.ClaimJoined
import GoSem.ClaimMapViews
import Derived.JoinedTies
import Derived.KernelRfl
namespace Go.Proofs.YbulkdfvyDoor
/- THE CELL 'sum', in the pinned program and in every row, IS THE sha256 OF THE DUMP (.gsa) THAT YbulkdfvyDoorProg.lean LOADS. Nothing in Lean hashes anything: it is a label: what it is worth is what the hold of that sum in a sandbox is worth. -/
noncomputable def Ybad.pinned : Pinned := { name := "ybulkdfvydoor", sum := "b2f3d9c6dca3b1d1565dc243a434b028a8462508c7531148f417b32e3c105a99", checked := Ybad.checked }
namespace Rows
def none {H : Type} : Left H := { results := [], args := [] }

/- WHAT THE LISTED PACKAGE-LEVEL VARIABLES READ AS WHEN THE CALL BEGINS. Each datum BY PROGRAM (the guide's laid-datum.mjs) off the statement by which the dump's own 'gosem.cut.vars' lays the variable. In a bare row this is a premise. The card (YbulkdfvyDoorCards.lean) ties it to the program's text. -/
def laid_example_com_keyfold_keyfold_errNotAuthentic {H : Type} : DataW H := .iface "*errors.errorString" (.ptr (.agg [.lit (.string [114, 101, 99, 111, 114, 100, 32, 100, 111, 101, 115, 32, 110, 111, 116, 32, 97, 117, 116, 104, 101, 110, 116, 105, 99, 97, 116, 101, 58, 32, 105, 116, 115, 32, 99, 111, 110, 116, 101, 120, 116, 32, 100, 105, 102, 102, 101, 114, 115, 44, 32, 111, 114, 32, 105, 116, 32, 119, 97, 115, 32, 97, 108, 116, 101, 114, 101, 100])]))

/-- 'keyfold.LawS5354AOpen': WHATEVER THE INPUT: true; the input reads as it did. -/
def lawS5354AOpenSpec : ChangeSpec := { name := "lawS5354AOpen", vars := ["example.com/keyfold/keyfold.errNotAuthentic"], fn := fun _ => fun
  | [d1, d2, d3, d4, d5, g1] => { results := [.lit (.bool true)], args := [d1, d2, d3, d4, d5], vars := [g1] }
  | _ => none }
def lawS5354AOpenRow : OpenClaim := { program := "ybulkdfvydoor", sum := "b2f3d9c6dca3b1d1565dc243a434b028a8462508c7531148f417b32e3c105a99", func := "example.com/keyfold/keyfold.LawS5354AOpen", spec := "lawS5354AOpen", unfollowed := true, recurses := true, named := ["example.com/keyfold/keyfold.errNotAuthentic"], ifaces := true, apart := false, laid := [("example.com/keyfold/keyfold.errNotAuthentic", laid_example_com_keyfold_keyfold_errNotAuthentic)] }
def LawS5354AOpenSaid : Prop := lawS5354AOpenRow.holds Ybad.pinned (OpenSpec.ofChange lawS5354AOpenSpec)

/-- ITS FALSE NEIGHBOUR: 'it returns false'. Refute it at one input. -/
def lawS5354AOpenWrong : ChangeSpec := { name := "lawS5354AOpen", vars := ["example.com/keyfold/keyfold.errNotAuthentic"], fn := fun _ => fun
  | [d1, d2, d3, d4, d5, g1] => { results := [.lit (.bool false)], args := [d1, d2, d3, d4, d5], vars := [g1] }
  | _ => none }
def LawS5354AOpenWrongFalsely : Prop := lawS5354AOpenRow.holds Ybad.pinned (OpenSpec.ofChange lawS5354AOpenWrong)

end Rows
end Go.Proofs.YbulkdfvyDoor
