/-
  No cell of these rows narrows 'for every input' (looked for: loops, veiled, ifaces, maps, wideKeys, modest, calm, conditions, laid).
  DERIVED. THE GIVEN ROWS OF THIS SEAT. 3 by the template 'for every input the law returns true; each argument reads behind the call as it read before'; 0 by the template 'total and deterministic' (their statements: YbulkcbemTotals.lean).
  GIVEN WITH THE SEED: the statements are not yours to turn. If you find one false, say at which input.
  Laid BY PROGRAM, IN A SANDBOX (cutbox-rows.mjs): the forced cells as the released guide's own fill.sh prints them over the translation 834e3ea78e46f3ec… (all of the seat's roots in one cut). By AI agents, Wed Nov 11 2026. No macro, syntax, notation, axiom, sorry.
-/
import Derived.Test.YbulkcbemChecked
import GoSem.Claim
import GoSem.ClaimJoined
import GoSem.ClaimMapViews
import Derived.JoinedTies
import Derived.KernelRfl
namespace Go.Proofs.Ybulkcbem
/- THE CELL 'sum', in the pinned program and in every row, IS THE sha256 OF THE DUMP (.gsa) THAT YbulkcbemProg.lean LOADS. Nothing in Lean hashes anything: it is a label: what it is worth is what the hold of that sum in a sandbox is worth. -/
noncomputable def Yba.pinned : Pinned := { name := "ybulkcbem", sum := "834e3ea78e46f3ec799b9ed27328323a4d299c820765849a1b38e905ce18b1e8", checked := Yba.checked }
namespace Rows
def none {H : Type} : Left H := { results := [], args := [] }

/-- 'shrink-wrap.LawS3873AOneDraw': WHATEVER THE INPUT: true; the input reads as it did. -/
def lawS3873AOneDrawSpec : ChangeSpec := { name := "lawS3873AOneDraw", fn := fun _ => fun
  | [d1, d2] => { results := [.lit (.bool true)], args := [d1, d2] }
  | _ => none }
def lawS3873AOneDrawRow : OpenClaim := { program := "ybulkcbem", sum := "834e3ea78e46f3ec799b9ed27328323a4d299c820765849a1b38e905ce18b1e8", func := "example.com/shrink-wrap/shrink-wrap.LawS3873AOneDraw", spec := "lawS3873AOneDraw", unfollowed := true, recurses := true, apart := false }
def LawS3873AOneDrawSaid : Prop := lawS3873AOneDrawRow.holds Yba.pinned (OpenSpec.ofChange lawS3873AOneDrawSpec)

/-- ITS FALSE NEIGHBOUR: 'it returns false'. Refute it at one input. -/
def lawS3873AOneDrawWrong : ChangeSpec := { name := "lawS3873AOneDraw", fn := fun _ => fun
  | [d1, d2] => { results := [.lit (.bool false)], args := [d1, d2] }
  | _ => none }
def LawS3873AOneDrawWrongFalsely : Prop := lawS3873AOneDrawRow.holds Yba.pinned (OpenSpec.ofChange lawS3873AOneDrawWrong)

/-- 'shrink-wrap.LawS3873AChain': WHATEVER THE INPUT: true; the input reads as it did. -/
def lawS3873AChainSpec : ChangeSpec := { name := "lawS3873AChain", fn := fun _ => fun
  | [d] => { results := [.lit (.bool true)], args := [d] }
  | _ => none }
def lawS3873AChainRow : OpenClaim := { program := "ybulkcbem", sum := "834e3ea78e46f3ec799b9ed27328323a4d299c820765849a1b38e905ce18b1e8", func := "example.com/shrink-wrap/shrink-wrap.LawS3873AChain", spec := "lawS3873AChain", unfollowed := true, recurses := true, apart := false }
def LawS3873AChainSaid : Prop := lawS3873AChainRow.holds Yba.pinned (OpenSpec.ofChange lawS3873AChainSpec)

/-- ITS FALSE NEIGHBOUR: 'it returns false'. Refute it at one input. -/
def lawS3873AChainWrong : ChangeSpec := { name := "lawS3873AChain", fn := fun _ => fun
  | [d] => { results := [.lit (.bool false)], args := [d] }
  | _ => none }
def LawS3873AChainWrongFalsely : Prop := lawS3873AChainRow.holds Yba.pinned (OpenSpec.ofChange lawS3873AChainWrong)

/-- 'shrink-wrap.LawS3873CFirstMatch': WHATEVER THE INPUT: true; the input reads as it did. -/
def lawS3873CFirstMatchSpec : ChangeSpec := { name := "lawS3873CFirstMatch", fn := fun _ => fun
  | [d1, d2, d3, d4, d5] => { results := [.lit (.bool true)], args := [d1, d2, d3, d4, d5] }
  | _ => none }
def lawS3873CFirstMatchRow : OpenClaim := { program := "ybulkcbem", sum := "834e3ea78e46f3ec799b9ed27328323a4d299c820765849a1b38e905ce18b1e8", func := "example.com/shrink-wrap/shrink-wrap.LawS3873CFirstMatch", spec := "lawS3873CFirstMatch", unfollowed := true, recurses := true, apart := false }
def LawS3873CFirstMatchSaid : Prop := lawS3873CFirstMatchRow.holds Yba.pinned (OpenSpec.ofChange lawS3873CFirstMatchSpec)

/-- ITS FALSE NEIGHBOUR: 'it returns false'. Refute it at one input. -/
def lawS3873CFirstMatchWrong : ChangeSpec := { name := "lawS3873CFirstMatch", fn := fun _ => fun
  | [d1, d2, d3, d4, d5] => { results := [.lit (.bool false)], args := [d1, d2, d3, d4, d5] }
  | _ => none }
def LawS3873CFirstMatchWrongFalsely : Prop := lawS3873CFirstMatchRow.holds Yba.pinned (OpenSpec.ofChange lawS3873CFirstMatchWrong)

end Rows
end Go.Proofs.Ybulkcbem
