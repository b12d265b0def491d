/-
  No cell of these rows narrows 'for every input' (looked for: loops, veiled, ifaces, maps, wideKeys, modest, calm, conditions, laid).
  DERIVED. THE GIVEN ROWS OF THIS SEAT. 3 by the template 'for every input the law returns true; each argument reads behind the call as it read before'; 0 by the template 'total and deterministic' (their statements: YbulkbqjyFmtTotals.lean).
  GIVEN WITH THE SEED: the statements are not yours to turn. If you find one false, say at which input.
  Laid BY PROGRAM, IN A SANDBOX (cutbox-rows.mjs): the forced cells as the released guide's own fill.sh prints them over the translation 7525ab3dde10bc3c… (all of the seat's roots in one cut). By AI agents, Wed Nov 11 2026. No macro, syntax, notation, axiom, sorry.
-/
import Derived.Test.YbulkbqjyFmtChecked
import GoSem.Claim
import GoSem.ClaimJoined
import GoSem.ClaimMapViews
import Derived.JoinedTies
import Derived.KernelRfl
namespace Go.Proofs.YbulkbqjyFmt
/- THE CELL 'sum', in the pinned program and in every row, IS THE sha256 OF THE DUMP (.gsa) THAT YbulkbqjyFmtProg.lean LOADS. Nothing in Lean hashes anything: it is a label: what it is worth is what the hold of that sum in a sandbox is worth. -/
noncomputable def Ybaf.pinned : Pinned := { name := "ybulkbqjyfmt", sum := "7525ab3dde10bc3c32bbb250e0dfa46c90a8e08a3d558582be86a433249b2ec8", checked := Ybaf.checked }
namespace Rows
def none {H : Type} : Left H := { results := [], args := [] }

/-- 'countersign.LawS3352AExact': WHATEVER THE INPUT: true; the input reads as it did. -/
def lawS3352AExactSpec : ChangeSpec := { name := "lawS3352AExact", fn := fun _ => fun
  | [d1, d2] => { results := [.lit (.bool true)], args := [d1, d2] }
  | _ => none }
def lawS3352AExactRow : OpenClaim := { program := "ybulkbqjyfmt", sum := "7525ab3dde10bc3c32bbb250e0dfa46c90a8e08a3d558582be86a433249b2ec8", func := "example.com/countersign/countersign.LawS3352AExact", spec := "lawS3352AExact", stops := ["fmt.errorf"], inPlace := ["fmt.errorf"], apart := false }
/-- NO THEOREM (fmt's text is open here; it may be false): for the released tool's asking of the row's closed facts alone. THE STATEMENT IS 'LawS3352AExactToldSaid' (YbulkbqjyFmtCards.lean). -/
def LawS3352AExactFormAsk : Prop := lawS3352AExactRow.holds Ybaf.pinned (OpenSpec.ofChange lawS3352AExactSpec)

/-- ITS FALSE NEIGHBOUR: 'it returns false'. Refute it at one input. -/
def lawS3352AExactWrong : ChangeSpec := { name := "lawS3352AExact", fn := fun _ => fun
  | [d1, d2] => { results := [.lit (.bool false)], args := [d1, d2] }
  | _ => none }
def LawS3352AExactWrongFormAsk : Prop := lawS3352AExactRow.holds Ybaf.pinned (OpenSpec.ofChange lawS3352AExactWrong)

/-- 'countersign.LawS3352AParse': WHATEVER THE INPUT: true; the input reads as it did. -/
def lawS3352AParseSpec : ChangeSpec := { name := "lawS3352AParse", fn := fun _ => fun
  | [d1, d2] => { results := [.lit (.bool true)], args := [d1, d2] }
  | _ => none }
def lawS3352AParseRow : OpenClaim := { program := "ybulkbqjyfmt", sum := "7525ab3dde10bc3c32bbb250e0dfa46c90a8e08a3d558582be86a433249b2ec8", func := "example.com/countersign/countersign.LawS3352AParse", spec := "lawS3352AParse", stops := ["fmt.errorf"], inPlace := ["fmt.errorf"], apart := false }
/-- NO THEOREM (fmt's text is open here; it may be false): for the released tool's asking of the row's closed facts alone. THE STATEMENT IS 'LawS3352AParseToldSaid' (YbulkbqjyFmtCards.lean). -/
def LawS3352AParseFormAsk : Prop := lawS3352AParseRow.holds Ybaf.pinned (OpenSpec.ofChange lawS3352AParseSpec)

/-- ITS FALSE NEIGHBOUR: 'it returns false'. Refute it at one input. -/
def lawS3352AParseWrong : ChangeSpec := { name := "lawS3352AParse", fn := fun _ => fun
  | [d1, d2] => { results := [.lit (.bool false)], args := [d1, d2] }
  | _ => none }
def LawS3352AParseWrongFormAsk : Prop := lawS3352AParseRow.holds Ybaf.pinned (OpenSpec.ofChange lawS3352AParseWrong)

/-- 'countersign.LawS3352BExact': WHATEVER THE INPUT: true; the input reads as it did. -/
def lawS3352BExactSpec : ChangeSpec := { name := "lawS3352BExact", fn := fun _ => fun
  | [d1, d2] => { results := [.lit (.bool true)], args := [d1, d2] }
  | _ => none }
def lawS3352BExactRow : OpenClaim := { program := "ybulkbqjyfmt", sum := "7525ab3dde10bc3c32bbb250e0dfa46c90a8e08a3d558582be86a433249b2ec8", func := "example.com/countersign/countersign.LawS3352BExact", spec := "lawS3352BExact", stops := ["fmt.errorf"], inPlace := ["fmt.errorf"], apart := false }
/-- NO THEOREM (fmt's text is open here; it may be false): for the released tool's asking of the row's closed facts alone. THE STATEMENT IS 'LawS3352BExactToldSaid' (YbulkbqjyFmtCards.lean). -/
def LawS3352BExactFormAsk : Prop := lawS3352BExactRow.holds Ybaf.pinned (OpenSpec.ofChange lawS3352BExactSpec)

/-- ITS FALSE NEIGHBOUR: 'it returns false'. Refute it at one input. -/
def lawS3352BExactWrong : ChangeSpec := { name := "lawS3352BExact", fn := fun _ => fun
  | [d1, d2] => { results := [.lit (.bool false)], args := [d1, d2] }
  | _ => none }
def LawS3352BExactWrongFormAsk : Prop := lawS3352BExactRow.holds Ybaf.pinned (OpenSpec.ofChange lawS3352BExactWrong)

end Rows
end Go.Proofs.YbulkbqjyFmt
