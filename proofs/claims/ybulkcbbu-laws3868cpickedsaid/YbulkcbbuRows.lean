/-
  No cell of these rows narrows 'for every input' (looked for: loops, veiled, ifaces, maps, wideKeys, modest, calm, conditions, laid).
  DERIVED. THE GIVEN ROWS OF THIS SEAT. 2 by the template 'for every input the law returns true; each argument reads behind the call as it read before'; 0 by the template 'total and deterministic' (their statements: YbulkcbbuTotals.lean).
  GIVEN WITH THE SEED: the statements are not yours to turn. If you find one false, say at which input.
  Laid BY PROGRAM, IN A SANDBOX (cutbox-rows.mjs): the forced cells as the released guide's own fill.sh prints them over the translation c612acab4f70ec4e… (all of the seat's roots in one cut). By AI agents, Wed Nov 11 2026. No macro, syntax, notation, axiom, sorry.
-/
import Derived.Test.YbulkcbbuChecked
import GoSem.Claim
import GoSem.ClaimJoined
import GoSem.ClaimMapViews
import Derived.JoinedTies
import Derived.KernelRfl
namespace Go.Proofs.Ybulkcbbu
/- THE CELL 'sum', in the pinned program and in every row, IS THE sha256 OF THE DUMP (.gsa) THAT YbulkcbbuProg.lean LOADS. Nothing in Lean hashes anything: it is a label: what it is worth is what the hold of that sum in a sandbox is worth. -/
noncomputable def Yba.pinned : Pinned := { name := "ybulkcbbu", sum := "c612acab4f70ec4e14e4ede76d1dc90b942f7545570e1866787a12571b97b0bf", checked := Yba.checked }
namespace Rows
def none {H : Type} : Left H := { results := [], args := [] }

/-- 'codec.LawS3868CModel': WHATEVER THE INPUT: true; the input reads as it did. -/
def lawS3868CModelSpec : ChangeSpec := { name := "lawS3868CModel", fn := fun _ => fun
  | [d1, d2, d3] => { results := [.lit (.bool true)], args := [d1, d2, d3] }
  | _ => none }
def lawS3868CModelRow : OpenClaim := { program := "ybulkcbbu", sum := "c612acab4f70ec4e14e4ede76d1dc90b942f7545570e1866787a12571b97b0bf", func := "example.com/busyback/busyback/internal/codec.LawS3868CModel", spec := "lawS3868CModel", apart := false }
def LawS3868CModelSaid : Prop := lawS3868CModelRow.holds Yba.pinned (OpenSpec.ofChange lawS3868CModelSpec)

/-- ITS FALSE NEIGHBOUR: 'it returns false'. Refute it at one input. -/
def lawS3868CModelWrong : ChangeSpec := { name := "lawS3868CModel", fn := fun _ => fun
  | [d1, d2, d3] => { results := [.lit (.bool false)], args := [d1, d2, d3] }
  | _ => none }
def LawS3868CModelWrongFalsely : Prop := lawS3868CModelRow.holds Yba.pinned (OpenSpec.ofChange lawS3868CModelWrong)

/-- 'codec.LawS3868CPicked': WHATEVER THE INPUT: true; the input reads as it did. -/
def lawS3868CPickedSpec : ChangeSpec := { name := "lawS3868CPicked", fn := fun _ => fun
  | [d1, d2, d3] => { results := [.lit (.bool true)], args := [d1, d2, d3] }
  | _ => none }
def lawS3868CPickedRow : OpenClaim := { program := "ybulkcbbu", sum := "c612acab4f70ec4e14e4ede76d1dc90b942f7545570e1866787a12571b97b0bf", func := "example.com/busyback/busyback/internal/codec.LawS3868CPicked", spec := "lawS3868CPicked", apart := false }
def LawS3868CPickedSaid : Prop := lawS3868CPickedRow.holds Yba.pinned (OpenSpec.ofChange lawS3868CPickedSpec)

/-- ITS FALSE NEIGHBOUR: 'it returns false'. Refute it at one input. -/
def lawS3868CPickedWrong : ChangeSpec := { name := "lawS3868CPicked", fn := fun _ => fun
  | [d1, d2, d3] => { results := [.lit (.bool false)], args := [d1, d2, d3] }
  | _ => none }
def LawS3868CPickedWrongFalsely : Prop := lawS3868CPickedRow.holds Yba.pinned (OpenSpec.ofChange lawS3868CPickedWrong)

end Rows
end Go.Proofs.Ybulkcbbu
