/-
  DERIVED. GIVEN WITH THE SEED: THE CARDS: each row of YbulkbxpiFmtRows.lean that lists a variable, with what it lists TIED to the program's text (the seventh form; the later family's looks); each row that meets fmt, with fmt's text TOLD by the authors' own Lean function (tested against real Go, not proved from fmt's source: count such statements apart). THE CARD IS WHAT COUNTS. Prove the row's statement (the work); the ties are given (YbulkbxpiFmtTie.lean); close each card by the builder's one call (the guide's Derived/Test/ToyasCard.lean, 'card_holds'). Laid BY PROGRAM, IN A SANDBOX (cutbox-door.mjs). By AI agents, Wed Nov 11 2026. No macro, syntax, notation, axiom, sorry.
-/
import Derived.Test.YbulkbxpiFmtRows
import GoSem.ClaimSeven
namespace Go.Proofs.YbulkbxpiFmt
namespace Rows

/-- THE TOLD AND TIED CARD OF 'antecede.LawS3700ASends'. -/
def lawS3700ASendsCard : Claim7 := { stood := { row := lawS3700ASendsRow, standIns := [], harness := (true, "3c7fe1f18899e955dba73b1f2f1d20278c607bfdb84a135ddb80c20d0d8b46f9"), looks := true }, told := true, laidByText := true, laidKinds := [.sentinel], laidTests := true, laidLooks := .later, goes := false }
def LawS3700ASendsToldSaid : Prop := Claim7.holds Ybaf.pinned (.plain (OpenSpec.ofChange lawS3700ASendsSpec)) lawS3700ASendsCard
/-- ITS FALSE NEIGHBOUR. Refute it at one input. -/
def LawS3700ASendsToldWrongFalsely : Prop := Claim7.holds Ybaf.pinned (.plain (OpenSpec.ofChange lawS3700ASendsWrong)) lawS3700ASendsCard

/-- THE TOLD AND TIED CARD OF 'antecede.LawS3700BFirstReceipt'. -/
def lawS3700BFirstReceiptCard : Claim7 := { stood := { row := lawS3700BFirstReceiptRow, standIns := [], harness := (true, "3c7fe1f18899e955dba73b1f2f1d20278c607bfdb84a135ddb80c20d0d8b46f9"), looks := true }, told := true, laidByText := true, laidKinds := [.sentinel], laidTests := true, laidLooks := .later, goes := false }
def LawS3700BFirstReceiptToldSaid : Prop := Claim7.holds Ybaf.pinned (.plain (OpenSpec.ofChange lawS3700BFirstReceiptSpec)) lawS3700BFirstReceiptCard
/-- ITS FALSE NEIGHBOUR. Refute it at one input. -/
def LawS3700BFirstReceiptToldWrongFalsely : Prop := Claim7.holds Ybaf.pinned (.plain (OpenSpec.ofChange lawS3700BFirstReceiptWrong)) lawS3700BFirstReceiptCard

/-- THE TOLD AND TIED CARD OF 'antecede.LawS3700BAwaits'. -/
def lawS3700BAwaitsCard : Claim7 := { stood := { row := lawS3700BAwaitsRow, standIns := [], harness := (true, "3c7fe1f18899e955dba73b1f2f1d20278c607bfdb84a135ddb80c20d0d8b46f9"), looks := true }, told := true, laidByText := true, laidKinds := [.sentinel], laidTests := true, laidLooks := .later, goes := false }
def LawS3700BAwaitsToldSaid : Prop := Claim7.holds Ybaf.pinned (.plain (OpenSpec.ofChange lawS3700BAwaitsSpec)) lawS3700BAwaitsCard
/-- ITS FALSE NEIGHBOUR. Refute it at one input. -/
def LawS3700BAwaitsToldWrongFalsely : Prop := Claim7.holds Ybaf.pinned (.plain (OpenSpec.ofChange lawS3700BAwaitsWrong)) lawS3700BAwaitsCard
end Rows
end Go.Proofs.YbulkbxpiFmt
