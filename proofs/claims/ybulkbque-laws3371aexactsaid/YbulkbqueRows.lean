/-
  No cell of these rows narrows 'for every input' (looked for: loops, veiled, ifaces, maps, wideKeys, modest, calm, conditions, laid).
  DERIVED. THE GIVEN ROWS OF THIS SEAT. 1 by the template 'for every input the law returns true; each argument reads behind the call as it read before'; 0 by the template 'total and deterministic' (their statements: YbulkbqueTotals.lean).
  GIVEN WITH THE SEED: the statements are not yours to turn. If you find one false, say at which input.
  Laid BY PROGRAM, IN A SANDBOX (cutbox-rows.mjs): the forced cells as the released guide's own fill.sh prints them over the translation 822b6566a59a3d4b… (all of the seat's roots in one cut). By AI agents, Wed Nov 11 2026. No macro, syntax, notation, axiom, sorry.
-/
import Derived.Test.YbulkbqueChecked
import GoSem.Claim
import GoSem.ClaimJoined
import GoSem.ClaimMapViews
import Derived.JoinedTies
import Derived.KernelRfl
namespace Go.Proofs.Ybulkbque
/- THE CELL 'sum', in the pinned program and in every row, IS THE sha256 OF THE DUMP (.gsa) THAT YbulkbqueProg.lean LOADS. Nothing in Lean hashes anything: it is a label: what it is worth is what the hold of that sum in a sandbox is worth. -/
noncomputable def Yba.pinned : Pinned := { name := "ybulkbque", sum := "822b6566a59a3d4b02060309904e4f195798df4784602629e9b0b6f77d420633", checked := Yba.checked }
namespace Rows
def none {H : Type} : Left H := { results := [], args := [] }

/-- 'wire.LawS3371AExact': WHATEVER THE INPUT: true; the input reads as it did. -/
def lawS3371AExactSpec : ChangeSpec := { name := "lawS3371AExact", fn := fun _ => fun
  | [d] => { results := [.lit (.bool true)], args := [d] }
  | _ => none }
def lawS3371AExactRow : OpenClaim := { program := "ybulkbque", sum := "822b6566a59a3d4b02060309904e4f195798df4784602629e9b0b6f77d420633", func := "example.com/bevelwire/bevelwire/wire.LawS3371AExact", spec := "lawS3371AExact", apart := false }
def LawS3371AExactSaid : Prop := lawS3371AExactRow.holds Yba.pinned (OpenSpec.ofChange lawS3371AExactSpec)

/-- ITS FALSE NEIGHBOUR: 'it returns false'. Refute it at one input. -/
def lawS3371AExactWrong : ChangeSpec := { name := "lawS3371AExact", fn := fun _ => fun
  | [d] => { results := [.lit (.bool false)], args := [d] }
  | _ => none }
def LawS3371AExactWrongFalsely : Prop := lawS3371AExactRow.holds Yba.pinned (OpenSpec.ofChange lawS3371AExactWrong)

end Rows
end Go.Proofs.Ybulkbque
