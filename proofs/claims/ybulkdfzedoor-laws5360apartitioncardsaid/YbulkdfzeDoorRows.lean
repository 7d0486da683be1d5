/-
  NARROWER THAN 'FOR EVERY INPUT', by the rows' own cells (each row's printed sentence says how): LawS5360APartition: laid · LawS5360AStop: laid.
  DERIVED. THE GIVEN ROWS OF THIS SEAT. 2 by the template 'for every input the law returns true; each argument reads behind the call as it read before'; 0 by the template 'total and deterministic' (their statements: YbulkdfzeDoorTotals.lean).
  GIVEN WITH THE SEED: the statements are not yours to turn. If you find one false, say at which input.
  Laid BY PROGRAM, IN A SANDBOX (cutbox-rows.mjs): the forced cells as the released guide's own fill.sh prints them over the translation 5e94aeb8c70637da… (all of the seat's roots in one cut). By AI agents, Wed Nov 11 2026. No macro, syntax, notation, axiom, sorry.
-/
import Derived.Test.YbulkdfzeDoorChecked
import GoSem.Claim
import GoSem.ClaimJoined
import GoSem.ClaimMapViews
import Derived.JoinedTies
import Derived.KernelRfl
namespace Go.Proofs.YbulkdfzeDoor
/- THE CELL 'sum', in the pinned program and in every row, IS THE sha256 OF THE DUMP (.gsa) THAT YbulkdfzeDoorProg.lean LOADS. Nothing in Lean hashes anything: it is a label: what it is worth is what the hold of that sum in a sandbox is worth. -/
noncomputable def Ybad.pinned : Pinned := { name := "ybulkdfzedoor", sum := "5e94aeb8c70637dacc18da8e8d5a785b04d0fafe8467d593e65533f886ab8e01", checked := Ybad.checked }
namespace Rows
def none {H : Type} : Left H := { results := [], args := [] }

/- WHAT THE LISTED PACKAGE-LEVEL VARIABLES READ AS WHEN THE CALL BEGINS. Each datum BY PROGRAM (the guide's laid-datum.mjs) off the statement by which the dump's own 'gosem.cut.vars' lays the variable. In a bare row this is a premise. The card (YbulkdfzeDoorCards.lean) ties it to the program's text. -/
def laid_example_com_convene_convene_internal_quorum_shipBytes {H : Type} : DataW H := .lit (.int .i64 262144)

/-- 'quorum.LawS5360APartition': WHATEVER THE INPUT: true; the input reads as it did. -/
def lawS5360APartitionSpec : ChangeSpec := { name := "lawS5360APartition", vars := ["example.com/convene/convene/internal/quorum.shipBytes"], fn := fun _ => fun
  | [d1, d2, g1] => { results := [.lit (.bool true)], args := [d1, d2], vars := [g1] }
  | _ => none }
def lawS5360APartitionRow : OpenClaim := { program := "ybulkdfzedoor", sum := "5e94aeb8c70637dacc18da8e8d5a785b04d0fafe8467d593e65533f886ab8e01", func := "example.com/convene/convene/internal/quorum.LawS5360APartition", spec := "lawS5360APartition", unfollowed := true, recurses := true, named := ["example.com/convene/convene/internal/quorum.shipBytes"], apart := false, laid := [("example.com/convene/convene/internal/quorum.shipBytes", laid_example_com_convene_convene_internal_quorum_shipBytes)] }
def LawS5360APartitionSaid : Prop := lawS5360APartitionRow.holds Ybad.pinned (OpenSpec.ofChange lawS5360APartitionSpec)

/-- ITS FALSE NEIGHBOUR: 'it returns false'. Refute it at one input. -/
def lawS5360APartitionWrong : ChangeSpec := { name := "lawS5360APartition", vars := ["example.com/convene/convene/internal/quorum.shipBytes"], fn := fun _ => fun
  | [d1, d2, g1] => { results := [.lit (.bool false)], args := [d1, d2], vars := [g1] }
  | _ => none }
def LawS5360APartitionWrongFalsely : Prop := lawS5360APartitionRow.holds Ybad.pinned (OpenSpec.ofChange lawS5360APartitionWrong)

/-- 'quorum.LawS5360AStop': WHATEVER THE INPUT: true; the input reads as it did. -/
def lawS5360AStopSpec : ChangeSpec := { name := "lawS5360AStop", vars := ["example.com/convene/convene/internal/quorum.shipBytes"], fn := fun _ => fun
  | [d1, d2, d3, g1] => { results := [.lit (.bool true)], args := [d1, d2, d3], vars := [g1] }
  | _ => none }
def lawS5360AStopRow : OpenClaim := { program := "ybulkdfzedoor", sum := "5e94aeb8c70637dacc18da8e8d5a785b04d0fafe8467d593e65533f886ab8e01", func := "example.com/convene/convene/internal/quorum.LawS5360AStop", spec := "lawS5360AStop", unfollowed := true, recurses := true, named := ["example.com/convene/convene/internal/quorum.shipBytes"], apart := false, laid := [("example.com/convene/convene/internal/quorum.shipBytes", laid_example_com_convene_convene_internal_quorum_shipBytes)] }
def LawS5360AStopSaid : Prop := lawS5360AStopRow.holds Ybad.pinned (OpenSpec.ofChange lawS5360AStopSpec)

/-- ITS FALSE NEIGHBOUR: 'it returns false'. Refute it at one input. -/
def lawS5360AStopWrong : ChangeSpec := { name := "lawS5360AStop", vars := ["example.com/convene/convene/internal/quorum.shipBytes"], fn := fun _ => fun
  | [d1, d2, d3, g1] => { results := [.lit (.bool false)], args := [d1, d2, d3], vars := [g1] }
  | _ => none }
def LawS5360AStopWrongFalsely : Prop := lawS5360AStopRow.holds Ybad.pinned (OpenSpec.ofChange lawS5360AStopWrong)

end Rows
end Go.Proofs.YbulkdfzeDoor
