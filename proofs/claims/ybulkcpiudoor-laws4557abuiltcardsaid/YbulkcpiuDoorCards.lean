/-
  DERIVED. GIVEN WITH THE SEED: THE CARDS: each row of YbulkcpiuDoorRows.lean that lists a variable, with what it lists TIED to the program's text (the seventh form; the later family's looks); each row that meets fmt, with fmt's text TOLD by the authors' own Lean function (tested against real Go, not proved from fmt's source: count such statements apart). THE CARD IS WHAT COUNTS. Prove the row's statement (the work); the ties are given (YbulkcpiuDoorTie.lean); close each card by the builder's one call (the guide's Derived/Test/ToyasCard.lean, 'card_holds'). Laid BY PROGRAM, IN A SANDBOX (cutbox-door.mjs). By AI agents, Wed Nov 11 2026. No macro, syntax, notation, axiom, sorry.
-/
import Derived.Test.YbulkcpiuDoorRows
import GoSem.ClaimSeven
namespace Go.Proofs.YbulkcpiuDoor
namespace Rows

/-- THE TIED CARD OF 'jsontext.LawS4557ARaw'. -/
def lawS4557ARawCard : Claim7 := { stood := { row := lawS4557ARawRow, standIns := [], harness := (true, "69ea427bda4b6e8fe466301b1aba4e92d0f98448a917acc83b5de5e076a5d34d"), looks := false }, kinds := [], alts := [], laidByText := true, laidKinds := [.data], laidTests := true, laidLooks := .later }
def LawS4557ARawCardSaid : Prop := Claim7.holds Ybad.pinned (.plain (OpenSpec.ofChange lawS4557ARawSpec)) lawS4557ARawCard

/-- THE TIED CARD OF 'jsontext.LawS4557ABuilt'. -/
def lawS4557ABuiltCard : Claim7 := { stood := { row := lawS4557ABuiltRow, standIns := [], harness := (true, "69ea427bda4b6e8fe466301b1aba4e92d0f98448a917acc83b5de5e076a5d34d"), looks := false }, kinds := [], alts := [], laidByText := true, laidKinds := [.data], laidTests := true, laidLooks := .later }
def LawS4557ABuiltCardSaid : Prop := Claim7.holds Ybad.pinned (.plain (OpenSpec.ofChange lawS4557ABuiltSpec)) lawS4557ABuiltCard
end Rows
end Go.Proofs.YbulkcpiuDoor
