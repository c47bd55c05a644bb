/-
  DERIVED. GIVEN WITH THE SEED: THE CARDS: each row of YbulkcawkDoorRows.lean that lists a variable, with what it lists TIED to the program's text (the seventh form; the later family's looks); each row that meets fmt, with fmt's text TOLD by the authors' own Lean function (tested against real Go, not proved from fmt's source: count such statements apart). THE CARD IS WHAT COUNTS. Prove the row's statement (the work); the ties are given (YbulkcawkDoorTie.lean); close each card by the builder's one call (the guide's Derived/Test/ToyasCard.lean, 'card_holds'). Laid BY PROGRAM, IN A SANDBOX (cutbox-door.mjs). By AI agents, Wed Nov 11 2026. No macro, syntax, notation, axiom, sorry.
-/
import Derived.Test.YbulkcawkDoorRows
import GoSem.ClaimSeven
namespace Go.Proofs.YbulkcawkDoor
namespace Rows

/-- THE TIED CARD OF 'conciliate.LawS3858CModel'. -/
def lawS3858CModelCard : Claim7 := { stood := { row := lawS3858CModelRow, standIns := [], harness := (true, "fa4c2479535efaf55871a3b9be08fc1ab7da112d9a50cbab6aa2d92a14be6239"), looks := true }, kinds := [], alts := [], laidByText := true, laidKinds := [.data], laidTests := true, laidLooks := .later }
def LawS3858CModelCardSaid : Prop := Claim7.holds Ybad.pinned (.plain (OpenSpec.ofChange lawS3858CModelSpec)) lawS3858CModelCard

/-- THE TIED CARD OF 'conciliate.LawS3858CState'. -/
def lawS3858CStateCard : Claim7 := { stood := { row := lawS3858CStateRow, standIns := [], harness := (true, "fa4c2479535efaf55871a3b9be08fc1ab7da112d9a50cbab6aa2d92a14be6239"), looks := true }, kinds := [], alts := [], laidByText := true, laidKinds := [.data], laidTests := true, laidLooks := .later }
def LawS3858CStateCardSaid : Prop := Claim7.holds Ybad.pinned (.plain (OpenSpec.ofChange lawS3858CStateSpec)) lawS3858CStateCard
end Rows
end Go.Proofs.YbulkcawkDoor
