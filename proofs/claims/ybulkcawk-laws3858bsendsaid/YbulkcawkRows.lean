/-
  No cell of these rows narrows 'for every input' (looked for: loops, veiled, ifaces, maps, wideKeys, modest, calm, conditions, laid).
  DERIVED. THE GIVEN ROWS OF THIS SEAT. 3 by the template 'for every input the law returns true; each argument reads behind the call as it read before'; 0 by the template 'total and deterministic' (their statements: YbulkcawkTotals.lean).
  GIVEN WITH THE SEED: the statements are not yours to turn. If you find one false, say at which input.
  Laid BY PROGRAM, IN A SANDBOX (cutbox-rows.mjs): the forced cells as the released guide's own fill.sh prints them over the translation bde92f40de0f3ded… (all of the seat's roots in one cut). By AI agents, Wed Nov 11 2026. No macro, syntax, notation, axiom, sorry.
-/
import Derived.Test.YbulkcawkChecked
import GoSem.Claim
import GoSem.ClaimJoined
import GoSem.ClaimMapViews
import Derived.JoinedTies
import Derived.KernelRfl
namespace Go.Proofs.Ybulkcawk
/- THE CELL 'sum', in the pinned program and in every row, IS THE sha256 OF THE DUMP (.gsa) THAT YbulkcawkProg.lean LOADS. Nothing in Lean hashes anything: it is a label: what it is worth is what the hold of that sum in a sandbox is worth. -/
noncomputable def Yba.pinned : Pinned := { name := "ybulkcawk", sum := "bde92f40de0f3ded4f5d8e6bee8859d300d2de4627b9974cc4676be4900d359e", checked := Yba.checked }
namespace Rows
def none {H : Type} : Left H := { results := [], args := [] }

/-- 'predictions.LawS3858AExact': WHATEVER THE INPUT: true; the input reads as it did. -/
def lawS3858AExactSpec : ChangeSpec := { name := "lawS3858AExact", fn := fun _ => fun
  | [d1, d2, d3] => { results := [.lit (.bool true)], args := [d1, d2, d3] }
  | _ => none }
def lawS3858AExactRow : OpenClaim := { program := "ybulkcawk", sum := "bde92f40de0f3ded4f5d8e6bee8859d300d2de4627b9974cc4676be4900d359e", func := "example.com/quorumfold/quorumfold/predictions.LawS3858AExact", spec := "lawS3858AExact", apart := false }
def LawS3858AExactSaid : Prop := lawS3858AExactRow.holds Yba.pinned (OpenSpec.ofChange lawS3858AExactSpec)

/-- ITS FALSE NEIGHBOUR: 'it returns false'. Refute it at one input. -/
def lawS3858AExactWrong : ChangeSpec := { name := "lawS3858AExact", fn := fun _ => fun
  | [d1, d2, d3] => { results := [.lit (.bool false)], args := [d1, d2, d3] }
  | _ => none }
def LawS3858AExactWrongFalsely : Prop := lawS3858AExactRow.holds Yba.pinned (OpenSpec.ofChange lawS3858AExactWrong)

/-- 'predictions.LawS3858AMonotone': WHATEVER THE INPUT: true; the input reads as it did. -/
def lawS3858AMonotoneSpec : ChangeSpec := { name := "lawS3858AMonotone", fn := fun _ => fun
  | [d1, d2, d3] => { results := [.lit (.bool true)], args := [d1, d2, d3] }
  | _ => none }
def lawS3858AMonotoneRow : OpenClaim := { program := "ybulkcawk", sum := "bde92f40de0f3ded4f5d8e6bee8859d300d2de4627b9974cc4676be4900d359e", func := "example.com/quorumfold/quorumfold/predictions.LawS3858AMonotone", spec := "lawS3858AMonotone", apart := false }
def LawS3858AMonotoneSaid : Prop := lawS3858AMonotoneRow.holds Yba.pinned (OpenSpec.ofChange lawS3858AMonotoneSpec)

/-- ITS FALSE NEIGHBOUR: 'it returns false'. Refute it at one input. -/
def lawS3858AMonotoneWrong : ChangeSpec := { name := "lawS3858AMonotone", fn := fun _ => fun
  | [d1, d2, d3] => { results := [.lit (.bool false)], args := [d1, d2, d3] }
  | _ => none }
def LawS3858AMonotoneWrongFalsely : Prop := lawS3858AMonotoneRow.holds Yba.pinned (OpenSpec.ofChange lawS3858AMonotoneWrong)

/-- 'adversary.LawS3858BSend': WHATEVER THE INPUT: true; the input reads as it did. -/
def lawS3858BSendSpec : ChangeSpec := { name := "lawS3858BSend", fn := fun _ => fun
  | [d1, d2, d3, d4, d5, d6, d7] => { results := [.lit (.bool true)], args := [d1, d2, d3, d4, d5, d6, d7] }
  | _ => none }
def lawS3858BSendRow : OpenClaim := { program := "ybulkcawk", sum := "bde92f40de0f3ded4f5d8e6bee8859d300d2de4627b9974cc4676be4900d359e", func := "example.com/quorumfold/quorumfold/adversary.LawS3858BSend", spec := "lawS3858BSend", unfollowed := true, recurses := true, apart := false }
def LawS3858BSendSaid : Prop := lawS3858BSendRow.holds Yba.pinned (OpenSpec.ofChange lawS3858BSendSpec)

/-- ITS FALSE NEIGHBOUR: 'it returns false'. Refute it at one input. -/
def lawS3858BSendWrong : ChangeSpec := { name := "lawS3858BSend", fn := fun _ => fun
  | [d1, d2, d3, d4, d5, d6, d7] => { results := [.lit (.bool false)], args := [d1, d2, d3, d4, d5, d6, d7] }
  | _ => none }
def LawS3858BSendWrongFalsely : Prop := lawS3858BSendRow.holds Yba.pinned (OpenSpec.ofChange lawS3858BSendWrong)

end Rows
end Go.Proofs.Ybulkcawk
