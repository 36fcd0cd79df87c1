/-
  No cell of these rows narrows 'for every input' (looked for: loops, veiled, ifaces, maps, wideKeys, modest, calm, conditions, laid).
  DERIVED. THE GIVEN ROWS OF THIS SEAT. 1 by the template 'for every input the law returns true; each argument reads behind the call as it read before'; 0 by the template 'total and deterministic' (their statements: YbulkcpncTotals.lean).
  GIVEN WITH THE SEED: the statements are not yours to turn. If you find one false, say at which input.
  Laid BY PROGRAM, IN A SANDBOX (cutbox-rows.mjs): the forced cells as the released guide's own fill.sh prints them over the translation 011558bfa6d8c82c… (all of the seat's roots in one cut). By AI agents, Wed Nov 11 2026. No macro, syntax, notation, axiom, sorry.
-/
import Derived.Test.YbulkcpncChecked
import GoSem.Claim
import GoSem.ClaimJoined
import GoSem.ClaimMapViews
import Derived.JoinedTies
import Derived.KernelRfl
namespace Go.Proofs.Ybulkcpnc
/- THE CELL 'sum', in the pinned program and in every row, IS THE sha256 OF THE DUMP (.gsa) THAT YbulkcpncProg.lean LOADS. Nothing in Lean hashes anything: it is a label: what it is worth is what the hold of that sum in a sandbox is worth. -/
noncomputable def Yba.pinned : Pinned := { name := "ybulkcpnc", sum := "011558bfa6d8c82ce6023fb0cbd0347e773c58a66322d607ab73b9ed96628dc0", checked := Yba.checked }
namespace Rows
def none {H : Type} : Left H := { results := [], args := [] }

/-- 'screen.LawS4565CParties': WHATEVER THE INPUT: true; the input reads as it did. -/
def lawS4565CPartiesSpec : ChangeSpec := { name := "lawS4565CParties", fn := fun _ => fun
  | [d1, d2, d3, d4, d5] => { results := [.lit (.bool true)], args := [d1, d2, d3, d4, d5] }
  | _ => none }
def lawS4565CPartiesRow : OpenClaim := { program := "ybulkcpnc", sum := "011558bfa6d8c82ce6023fb0cbd0347e773c58a66322d607ab73b9ed96628dc0", func := "example.com/tuoguan/tuoguan/screen.LawS4565CParties", spec := "lawS4565CParties", plainKeys := false, apart := false }
def LawS4565CPartiesSaid : Prop := lawS4565CPartiesRow.holds Yba.pinned (OpenSpec.ofChange lawS4565CPartiesSpec)

/-- ITS FALSE NEIGHBOUR: 'it returns false'. Refute it at one input. -/
def lawS4565CPartiesWrong : ChangeSpec := { name := "lawS4565CParties", fn := fun _ => fun
  | [d1, d2, d3, d4, d5] => { results := [.lit (.bool false)], args := [d1, d2, d3, d4, d5] }
  | _ => none }
def LawS4565CPartiesWrongFalsely : Prop := lawS4565CPartiesRow.holds Yba.pinned (OpenSpec.ofChange lawS4565CPartiesWrong)

end Rows
end Go.Proofs.Ybulkcpnc
