/-
  No cell of these rows narrows 'for every input' (looked for: loops, veiled, ifaces, maps, wideKeys, modest, calm, conditions, laid).
  DERIVED. THE GIVEN ROWS OF THIS SEAT. 2 by the template 'for every input the law returns true; each argument reads behind the call as it read before'; 0 by the template 'total and deterministic' (their statements: YbulkbqpiTotals.lean).
  GIVEN WITH THE SEED: the statements are not yours to turn. If you find one false, say at which input.
  Laid BY PROGRAM, IN A SANDBOX (cutbox-rows.mjs): the forced cells as the released guide's own fill.sh prints them over the translation c4e1a4f31750abb1… (all of the seat's roots in one cut). By AI agents, Wed Nov 11 2026. No macro, syntax, notation, axiom, sorry.
-/
import Derived.Test.YbulkbqpiChecked
import GoSem.Claim
import GoSem.ClaimJoined
import GoSem.ClaimMapViews
import Derived.JoinedTies
import Derived.KernelRfl
namespace Go.Proofs.Ybulkbqpi
/- THE CELL 'sum', in the pinned program and in every row, IS THE sha256 OF THE DUMP (.gsa) THAT YbulkbqpiProg.lean LOADS. Nothing in Lean hashes anything: it is a label: what it is worth is what the hold of that sum in a sandbox is worth. -/
noncomputable def Yba.pinned : Pinned := { name := "ybulkbqpi", sum := "c4e1a4f31750abb1afa3993f06373e7051d6e2d997d30201db36911784da5f1b", checked := Yba.checked }
namespace Rows
def none {H : Type} : Left H := { results := [], args := [] }

/-- 'shakeroot.LawS3362BJoin': WHATEVER THE INPUT: true; the input reads as it did. -/
def lawS3362BJoinSpec : ChangeSpec := { name := "lawS3362BJoin", fn := fun _ => fun
  | [d1, d2] => { results := [.lit (.bool true)], args := [d1, d2] }
  | _ => none }
def lawS3362BJoinRow : OpenClaim := { program := "ybulkbqpi", sum := "c4e1a4f31750abb1afa3993f06373e7051d6e2d997d30201db36911784da5f1b", func := "example.com/shakeroot/shakeroot.LawS3362BJoin", spec := "lawS3362BJoin", inPlace := ["internal/bytealg.MakeNoZero"], apart := false }
def LawS3362BJoinSaid : Prop := lawS3362BJoinRow.holds Yba.pinned (OpenSpec.ofChange lawS3362BJoinSpec)

/-- ITS FALSE NEIGHBOUR: 'it returns false'. Refute it at one input. -/
def lawS3362BJoinWrong : ChangeSpec := { name := "lawS3362BJoin", fn := fun _ => fun
  | [d1, d2] => { results := [.lit (.bool false)], args := [d1, d2] }
  | _ => none }
def LawS3362BJoinWrongFalsely : Prop := lawS3362BJoinRow.holds Yba.pinned (OpenSpec.ofChange lawS3362BJoinWrong)

/-- 'shakeroot.LawS3362BWriteJoin': WHATEVER THE INPUT: true; the input reads as it did. -/
def lawS3362BWriteJoinSpec : ChangeSpec := { name := "lawS3362BWriteJoin", fn := fun _ => fun
  | [d1, d2] => { results := [.lit (.bool true)], args := [d1, d2] }
  | _ => none }
def lawS3362BWriteJoinRow : OpenClaim := { program := "ybulkbqpi", sum := "c4e1a4f31750abb1afa3993f06373e7051d6e2d997d30201db36911784da5f1b", func := "example.com/shakeroot/shakeroot.LawS3362BWriteJoin", spec := "lawS3362BWriteJoin", inPlace := ["internal/bytealg.MakeNoZero"], apart := false }
def LawS3362BWriteJoinSaid : Prop := lawS3362BWriteJoinRow.holds Yba.pinned (OpenSpec.ofChange lawS3362BWriteJoinSpec)

/-- ITS FALSE NEIGHBOUR: 'it returns false'. Refute it at one input. -/
def lawS3362BWriteJoinWrong : ChangeSpec := { name := "lawS3362BWriteJoin", fn := fun _ => fun
  | [d1, d2] => { results := [.lit (.bool false)], args := [d1, d2] }
  | _ => none }
def LawS3362BWriteJoinWrongFalsely : Prop := lawS3362BWriteJoinRow.holds Yba.pinned (OpenSpec.ofChange lawS3362BWriteJoinWrong)

end Rows
end Go.Proofs.Ybulkbqpi
