/-
  No cell of these rows narrows 'for every input' (looked for: loops, veiled, ifaces, maps, wideKeys, modest, calm, conditions, laid).
  DERIVED. THE GIVEN ROWS OF THIS SEAT. 2 by the template 'for every input the law returns true; each argument reads behind the call as it read before'; 0 by the template 'total and deterministic' (their statements: YbulkcpiuTotals.lean).
  GIVEN WITH THE SEED: the statements are not yours to turn. If you find one false, say at which input.
  Laid BY PROGRAM, IN A SANDBOX (cutbox-rows.mjs): the forced cells as the released guide's own fill.sh prints them over the translation 8eabe38720fb32b3… (all of the seat's roots in one cut). By AI agents, Wed Nov 11 2026. No macro, syntax, notation, axiom, sorry.
-/
import Derived.Test.YbulkcpiuChecked
import GoSem.Claim
import GoSem.ClaimJoined
import GoSem.ClaimMapViews
import Derived.JoinedTies
import Derived.KernelRfl
namespace Go.Proofs.Ybulkcpiu
/- THE CELL 'sum', in the pinned program and in every row, IS THE sha256 OF THE DUMP (.gsa) THAT YbulkcpiuProg.lean LOADS. Nothing in Lean hashes anything: it is a label: what it is worth is what the hold of that sum in a sandbox is worth. -/
noncomputable def Yba.pinned : Pinned := { name := "ybulkcpiu", sum := "8eabe38720fb32b3bec2f273011ff5fa4119ac5106f0f121fb4a37d4c9cd1fb8", checked := Yba.checked }
namespace Rows
def none {H : Type} : Left H := { results := [], args := [] }

/-- 'causal.LawS4557CNil': WHATEVER THE INPUT: true; the input reads as it did. -/
def lawS4557CNilSpec : ChangeSpec := { name := "lawS4557CNil", fn := fun _ => fun
  | [d] => { results := [.lit (.bool true)], args := [d] }
  | _ => none }
def lawS4557CNilRow : OpenClaim := { program := "ybulkcpiu", sum := "8eabe38720fb32b3bec2f273011ff5fa4119ac5106f0f121fb4a37d4c9cd1fb8", func := "example.com/causeline/causeline/causal.LawS4557CNil", spec := "lawS4557CNil", apart := false }
def LawS4557CNilSaid : Prop := lawS4557CNilRow.holds Yba.pinned (OpenSpec.ofChange lawS4557CNilSpec)

/-- ITS FALSE NEIGHBOUR: 'it returns false'. Refute it at one input. -/
def lawS4557CNilWrong : ChangeSpec := { name := "lawS4557CNil", fn := fun _ => fun
  | [d] => { results := [.lit (.bool false)], args := [d] }
  | _ => none }
def LawS4557CNilWrongFalsely : Prop := lawS4557CNilRow.holds Yba.pinned (OpenSpec.ofChange lawS4557CNilWrong)

/-- 'causal.LawS4557CModel': WHATEVER THE INPUT: true; the input reads as it did. -/
def lawS4557CModelSpec : ChangeSpec := { name := "lawS4557CModel", fn := fun _ => fun
  | [d1, d2] => { results := [.lit (.bool true)], args := [d1, d2] }
  | _ => none }
def lawS4557CModelRow : OpenClaim := { program := "ybulkcpiu", sum := "8eabe38720fb32b3bec2f273011ff5fa4119ac5106f0f121fb4a37d4c9cd1fb8", func := "example.com/causeline/causeline/causal.LawS4557CModel", spec := "lawS4557CModel", apart := false }
def LawS4557CModelSaid : Prop := lawS4557CModelRow.holds Yba.pinned (OpenSpec.ofChange lawS4557CModelSpec)

/-- ITS FALSE NEIGHBOUR: 'it returns false'. Refute it at one input. -/
def lawS4557CModelWrong : ChangeSpec := { name := "lawS4557CModel", fn := fun _ => fun
  | [d1, d2] => { results := [.lit (.bool false)], args := [d1, d2] }
  | _ => none }
def LawS4557CModelWrongFalsely : Prop := lawS4557CModelRow.holds Yba.pinned (OpenSpec.ofChange lawS4557CModelWrong)

end Rows
end Go.Proofs.Ybulkcpiu
