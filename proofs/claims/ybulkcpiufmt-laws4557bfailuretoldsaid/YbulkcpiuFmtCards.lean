/-
  DERIVED. GIVEN WITH THE SEED: THE CARDS: each row of YbulkcpiuFmtRows.lean that lists a variable, with what it lists TIED to the program's text (the seventh form; the later family's looks); each row that meets fmt, with fmt's text TOLD by the authors' own Lean function (tested against real Go, not proved from fmt's source: count such statements apart). THE CARD IS WHAT COUNTS. Prove the row's statement (the work); the ties are given (YbulkcpiuFmtTie.lean); close each card by the builder's one call (the guide's Derived/Test/ToyasCard.lean, 'card_holds'). Laid BY PROGRAM, IN A SANDBOX (cutbox-door.mjs). By AI agents, Wed Nov 11 2026. No macro, syntax, notation, axiom, sorry.
-/
import Derived.Test.YbulkcpiuFmtRows
import GoSem.ClaimSeven
namespace Go.Proofs.YbulkcpiuFmt
namespace Rows

/-- THE TOLD AND TIED CARD OF 'history.LawS4557BBytesThenEOF'. -/
def lawS4557BBytesThenEOFCard : Claim7 := { stood := { row := lawS4557BBytesThenEOFRow, standIns := [], harness := (true, "bc221149db1f234585c06732f04fc9ee96af76fd986ec9748773e73bac00a0f6"), looks := true }, told := true, laidByText := true, laidKinds := [.sentinel, .sentinel, .sentinel], laidTests := true, laidLooks := .later, goes := false }
def LawS4557BBytesThenEOFToldSaid : Prop := Claim7.holds Ybaf.pinned (.plain (OpenSpec.ofChange lawS4557BBytesThenEOFSpec)) lawS4557BBytesThenEOFCard
/-- ITS FALSE NEIGHBOUR. Refute it at one input. -/
def LawS4557BBytesThenEOFToldWrongFalsely : Prop := Claim7.holds Ybaf.pinned (.plain (OpenSpec.ofChange lawS4557BBytesThenEOFWrong)) lawS4557BBytesThenEOFCard

/-- THE TOLD AND TIED CARD OF 'history.LawS4557BFailure'. -/
def lawS4557BFailureCard : Claim7 := { stood := { row := lawS4557BFailureRow, standIns := [], harness := (true, "bc221149db1f234585c06732f04fc9ee96af76fd986ec9748773e73bac00a0f6"), looks := true }, told := true, laidByText := true, laidKinds := [.sentinel, .sentinel, .sentinel], laidTests := true, laidLooks := .later, goes := false }
def LawS4557BFailureToldSaid : Prop := Claim7.holds Ybaf.pinned (.plain (OpenSpec.ofChange lawS4557BFailureSpec)) lawS4557BFailureCard
/-- ITS FALSE NEIGHBOUR. Refute it at one input. -/
def LawS4557BFailureToldWrongFalsely : Prop := Claim7.holds Ybaf.pinned (.plain (OpenSpec.ofChange lawS4557BFailureWrong)) lawS4557BFailureCard
end Rows
end Go.Proofs.YbulkcpiuFmt
