/-
  NARROWER THAN 'FOR EVERY INPUT', by the rows' own cells (each row's printed sentence says how): LawS3858CModel: laid · LawS3858CState: laid.
  DERIVED. THE GIVEN ROWS OF THIS SEAT. 2 by the template 'for every input the law returns true; each argument reads behind the call as it read before'; 0 by the template 'total and deterministic' (their statements: YbulkcawkDoorTotals.lean).
  GIVEN WITH THE SEED: the statements are not yours to turn. If you find one false, say at which input.
  Laid BY PROGRAM, IN A SANDBOX (cutbox-rows.mjs): the forced cells as the released guide's own fill.sh prints them over the translation a91e24c771fe5b57… (all of the seat's roots in one cut). By AI agents, Wed Nov 11 2026. No macro, syntax, notation, axiom, sorry.
-/
import Derived.Test.YbulkcawkDoorChecked
import GoSem.Claim
import GoSem.ClaimJoined
import GoSem.ClaimMapViews
import Derived.JoinedTies
import Derived.KernelRfl
namespace Go.Proofs.YbulkcawkDoor
/- THE CELL 'sum', in the pinned program and in every row, IS THE sha256 OF THE DUMP (.gsa) THAT YbulkcawkDoorProg.lean LOADS. Nothing in Lean hashes anything: it is a label: what it is worth is what the hold of that sum in a sandbox is worth. -/
noncomputable def Ybad.pinned : Pinned := { name := "ybulkcawkdoor", sum := "a91e24c771fe5b57620eb6ce3895d1a27a7f1f4aef0d28448109df4a1887fc1f", checked := Ybad.checked }
namespace Rows
def none {H : Type} : Left H := { results := [], args := [] }

/- WHAT THE LISTED PACKAGE-LEVEL VARIABLES READ AS WHEN THE CALL BEGINS. Each datum BY PROGRAM (the guide's laid-datum.mjs) off the statement by which the dump's own 'gosem.cut.vars' lays the variable. In a bare row this is a premise. The card (YbulkcawkDoorCards.lean) ties it to the program's text. -/
def laid_example_com_quorumfold_quorumfold_conciliate_noNode {H : Type} : DataW H := .agg [.lit (.int .i32 2147483647), .lit (.int .i32 2147483647)]

/-- 'conciliate.LawS3858CModel': WHATEVER THE INPUT: true; the input reads as it did. -/
def lawS3858CModelSpec : ChangeSpec := { name := "lawS3858CModel", vars := ["example.com/quorumfold/quorumfold/conciliate.noNode"], fn := fun _ => fun
  | [d1, d2, d3, d4, g1] => { results := [.lit (.bool true)], args := [d1, d2, d3, d4], vars := [g1] }
  | _ => none }
def lawS3858CModelRow : OpenClaim := { program := "ybulkcawkdoor", sum := "a91e24c771fe5b57620eb6ce3895d1a27a7f1f4aef0d28448109df4a1887fc1f", func := "example.com/quorumfold/quorumfold/conciliate.LawS3858CModel", spec := "lawS3858CModel", named := ["example.com/quorumfold/quorumfold/conciliate.noNode"], apart := false, laid := [("example.com/quorumfold/quorumfold/conciliate.noNode", laid_example_com_quorumfold_quorumfold_conciliate_noNode)] }
def LawS3858CModelSaid : Prop := lawS3858CModelRow.holds Ybad.pinned (OpenSpec.ofChange lawS3858CModelSpec)

/-- ITS FALSE NEIGHBOUR: 'it returns false'. Refute it at one input. -/
def lawS3858CModelWrong : ChangeSpec := { name := "lawS3858CModel", vars := ["example.com/quorumfold/quorumfold/conciliate.noNode"], fn := fun _ => fun
  | [d1, d2, d3, d4, g1] => { results := [.lit (.bool false)], args := [d1, d2, d3, d4], vars := [g1] }
  | _ => none }
def LawS3858CModelWrongFalsely : Prop := lawS3858CModelRow.holds Ybad.pinned (OpenSpec.ofChange lawS3858CModelWrong)

/-- 'conciliate.LawS3858CState': WHATEVER THE INPUT: true; the input reads as it did. -/
def lawS3858CStateSpec : ChangeSpec := { name := "lawS3858CState", vars := ["example.com/quorumfold/quorumfold/conciliate.noNode"], fn := fun _ => fun
  | [d1, d2, d3, d4, g1] => { results := [.lit (.bool true)], args := [d1, d2, d3, d4], vars := [g1] }
  | _ => none }
def lawS3858CStateRow : OpenClaim := { program := "ybulkcawkdoor", sum := "a91e24c771fe5b57620eb6ce3895d1a27a7f1f4aef0d28448109df4a1887fc1f", func := "example.com/quorumfold/quorumfold/conciliate.LawS3858CState", spec := "lawS3858CState", named := ["example.com/quorumfold/quorumfold/conciliate.noNode"], apart := false, laid := [("example.com/quorumfold/quorumfold/conciliate.noNode", laid_example_com_quorumfold_quorumfold_conciliate_noNode)] }
def LawS3858CStateSaid : Prop := lawS3858CStateRow.holds Ybad.pinned (OpenSpec.ofChange lawS3858CStateSpec)

/-- ITS FALSE NEIGHBOUR: 'it returns false'. Refute it at one input. -/
def lawS3858CStateWrong : ChangeSpec := { name := "lawS3858CState", vars := ["example.com/quorumfold/quorumfold/conciliate.noNode"], fn := fun _ => fun
  | [d1, d2, d3, d4, g1] => { results := [.lit (.bool false)], args := [d1, d2, d3, d4], vars := [g1] }
  | _ => none }
def LawS3858CStateWrongFalsely : Prop := lawS3858CStateRow.holds Ybad.pinned (OpenSpec.ofChange lawS3858CStateWrong)

end Rows
end Go.Proofs.YbulkcawkDoor
