/-
  DERIVED. GIVEN WITH THE SEED: THE CARDS: each row of YbulkbqjyFmtRows.lean that lists a variable, with what it lists TIED to the program's text (the seventh form; the later family's looks); each row that meets fmt, with fmt's text TOLD by the authors' own Lean function (tested against real Go, not proved from fmt's source: count such statements apart). THE CARD IS WHAT COUNTS. Prove the row's statement (the work); the ties are given (YbulkbqjyFmtTie.lean); close each card by the builder's one call (the guide's Derived/Test/ToyasCard.lean, 'card_holds'). Laid BY PROGRAM, IN A SANDBOX (cutbox-door.mjs). By AI agents, Wed Nov 11 2026. No macro, syntax, notation, axiom, sorry.
-/
import Derived.Test.YbulkbqjyFmtRows
import GoSem.ClaimSeven
namespace Go.Proofs.YbulkbqjyFmt
namespace Rows

/-- THE TOLD CARD OF 'countersign.LawS3352AExact'. -/
def lawS3352AExactCard : Claim7 := { stood := { row := lawS3352AExactRow, standIns := [], harness := (true, "6a0bd607d9785e782c69aa1c8502a4f52e7065b4deea46a2e59b5da82e1cf537"), looks := false }, told := true, goes := false }
def LawS3352AExactToldSaid : Prop := Claim7.holds Ybaf.pinned (.plain (OpenSpec.ofChange lawS3352AExactSpec)) lawS3352AExactCard
/-- ITS FALSE NEIGHBOUR. Refute it at one input. -/
def LawS3352AExactToldWrongFalsely : Prop := Claim7.holds Ybaf.pinned (.plain (OpenSpec.ofChange lawS3352AExactWrong)) lawS3352AExactCard

/-- THE TOLD CARD OF 'countersign.LawS3352AParse'. -/
def lawS3352AParseCard : Claim7 := { stood := { row := lawS3352AParseRow, standIns := [], harness := (true, "6a0bd607d9785e782c69aa1c8502a4f52e7065b4deea46a2e59b5da82e1cf537"), looks := false }, told := true, goes := false }
def LawS3352AParseToldSaid : Prop := Claim7.holds Ybaf.pinned (.plain (OpenSpec.ofChange lawS3352AParseSpec)) lawS3352AParseCard
/-- ITS FALSE NEIGHBOUR. Refute it at one input. -/
def LawS3352AParseToldWrongFalsely : Prop := Claim7.holds Ybaf.pinned (.plain (OpenSpec.ofChange lawS3352AParseWrong)) lawS3352AParseCard

/-- THE TOLD CARD OF 'countersign.LawS3352BExact'. -/
def lawS3352BExactCard : Claim7 := { stood := { row := lawS3352BExactRow, standIns := [], harness := (true, "6a0bd607d9785e782c69aa1c8502a4f52e7065b4deea46a2e59b5da82e1cf537"), looks := false }, told := true, goes := false }
def LawS3352BExactToldSaid : Prop := Claim7.holds Ybaf.pinned (.plain (OpenSpec.ofChange lawS3352BExactSpec)) lawS3352BExactCard
/-- ITS FALSE NEIGHBOUR. Refute it at one input. -/
def LawS3352BExactToldWrongFalsely : Prop := Claim7.holds Ybaf.pinned (.plain (OpenSpec.ofChange lawS3352BExactWrong)) lawS3352BExactCard
end Rows
end Go.Proofs.YbulkbqjyFmt
