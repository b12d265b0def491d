/-
  No cell of these rows narrows 'for every input' (looked for: loops, veiled, ifaces, maps, wideKeys, modest, calm, conditions, laid).
  DERIVED. THE GIVEN ROWS OF THIS SEAT. 1 by the template 'for every input the law returns true; each argument reads behind the call as it read before'; 0 by the template 'total and deterministic' (their statements: YbulkbqjyTotals.lean).
  GIVEN WITH THE SEED: the statements are not yours to turn. If you find one false, say at which input.
  Laid BY PROGRAM, IN A SANDBOX (cutbox-rows.mjs): the forced cells as the released guide's own fill.sh prints them over the translation d49a7708ac2c9d77… (all of the seat's roots in one cut). By AI agents, Wed Nov 11 2026. No macro, syntax, notation, axiom, sorry.
-/
import Derived.Test.YbulkbqjyChecked
import GoSem.Claim
import GoSem.ClaimJoined
import GoSem.ClaimMapViews
import Derived.JoinedTies
import Derived.KernelRfl
namespace Go.Proofs.Ybulkbqjy
/- THE CELL 'sum', in the pinned program and in every row, IS THE sha256 OF THE DUMP (.gsa) THAT YbulkbqjyProg.lean LOADS. Nothing in Lean hashes anything: it is a label: what it is worth is what the hold of that sum in a sandbox is worth. -/
noncomputable def Yba.pinned : Pinned := { name := "ybulkbqjy", sum := "d49a7708ac2c9d77359e2af8493dd1a8b7fcc6e9cf376bde13d898fc5aa08256", checked := Yba.checked }
namespace Rows
def none {H : Type} : Left H := { results := [], args := [] }

/-- 'countersign.LawS3352CForget': WHATEVER THE INPUT: true; the input reads as it did. -/
def lawS3352CForgetSpec : ChangeSpec := { name := "lawS3352CForget", fn := fun _ => fun
  | [d1, d2, d3, d4] => { results := [.lit (.bool true)], args := [d1, d2, d3, d4] }
  | _ => none }
def lawS3352CForgetRow : OpenClaim := { program := "ybulkbqjy", sum := "d49a7708ac2c9d77359e2af8493dd1a8b7fcc6e9cf376bde13d898fc5aa08256", func := "example.com/countersign/countersign.LawS3352CForget", spec := "lawS3352CForget", unfollowed := true, recurses := true, plainKeys := false, apart := false }
def LawS3352CForgetSaid : Prop := lawS3352CForgetRow.holds Yba.pinned (OpenSpec.ofChange lawS3352CForgetSpec)

/-- ITS FALSE NEIGHBOUR: 'it returns false'. Refute it at one input. -/
def lawS3352CForgetWrong : ChangeSpec := { name := "lawS3352CForget", fn := fun _ => fun
  | [d1, d2, d3, d4] => { results := [.lit (.bool false)], args := [d1, d2, d3, d4] }
  | _ => none }
def LawS3352CForgetWrongFalsely : Prop := lawS3352CForgetRow.holds Yba.pinned (OpenSpec.ofChange lawS3352CForgetWrong)

end Rows
end Go.Proofs.Ybulkbqjy
