/-
  No cell of these rows narrows 'for every input' (looked for: loops, veiled, ifaces, maps, wideKeys, modest, calm, conditions, laid).
  DERIVED. THE GIVEN ROWS OF THIS SEAT. 1 by the template 'for every input the law returns true; each argument reads behind the call as it read before'; 0 by the template 'total and deterministic' (their statements: YbulkbqpwTotals.lean).
  GIVEN WITH THE SEED: the statements are not yours to turn. If you find one false, say at which input.
  Laid BY PROGRAM, IN A SANDBOX (cutbox-rows.mjs): the forced cells as the released guide's own fill.sh prints them over the translation 88d0ab950b9c0b8f… (all of the seat's roots in one cut). By AI agents, Wed Nov 11 2026. No macro, syntax, notation, axiom, sorry.
-/
import Derived.Test.YbulkbqpwChecked
import GoSem.Claim
import GoSem.ClaimJoined
import GoSem.ClaimMapViews
import Derived.JoinedTies
import Derived.KernelRfl
namespace Go.Proofs.Ybulkbqpw
/- THE CELL 'sum', in the pinned program and in every row, IS THE sha256 OF THE DUMP (.gsa) THAT YbulkbqpwProg.lean LOADS. Nothing in Lean hashes anything: it is a label: what it is worth is what the hold of that sum in a sandbox is worth. -/
noncomputable def Yba.pinned : Pinned := { name := "ybulkbqpw", sum := "88d0ab950b9c0b8f50508727c5d035610aa24b010c4d6f1b30bae8a457bb237b", checked := Yba.checked }
namespace Rows
def none {H : Type} : Left H := { results := [], args := [] }

/-- 'callform.LawS3363CPlaces': WHATEVER THE INPUT: true; the input reads as it did. -/
def lawS3363CPlacesSpec : ChangeSpec := { name := "lawS3363CPlaces", fn := fun _ => fun
  | [d1, d2, d3, d4, d5, d6] => { results := [.lit (.bool true)], args := [d1, d2, d3, d4, d5, d6] }
  | _ => none }
def lawS3363CPlacesRow : OpenClaim := { program := "ybulkbqpw", sum := "88d0ab950b9c0b8f50508727c5d035610aa24b010c4d6f1b30bae8a457bb237b", func := "example.com/callform/callform.LawS3363CPlaces", spec := "lawS3363CPlaces", apart := false }
def LawS3363CPlacesSaid : Prop := lawS3363CPlacesRow.holds Yba.pinned (OpenSpec.ofChange lawS3363CPlacesSpec)

/-- ITS FALSE NEIGHBOUR: 'it returns false'. Refute it at one input. -/
def lawS3363CPlacesWrong : ChangeSpec := { name := "lawS3363CPlaces", fn := fun _ => fun
  | [d1, d2, d3, d4, d5, d6] => { results := [.lit (.bool false)], args := [d1, d2, d3, d4, d5, d6] }
  | _ => none }
def LawS3363CPlacesWrongFalsely : Prop := lawS3363CPlacesRow.holds Yba.pinned (OpenSpec.ofChange lawS3363CPlacesWrong)

end Rows
end Go.Proofs.Ybulkbqpw
