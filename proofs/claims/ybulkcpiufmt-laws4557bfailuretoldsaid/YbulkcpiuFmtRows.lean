/-
  NARROWER THAN 'FOR EVERY INPUT', by the rows' own cells (each row's printed sentence says how): LawS4557BBytesThenEOF: laid · LawS4557BFailure: laid.
  DERIVED. THE GIVEN ROWS OF THIS SEAT. 2 by the template 'for every input the law returns true; each argument reads behind the call as it read before'; 0 by the template 'total and deterministic' (their statements: YbulkcpiuFmtTotals.lean).
  GIVEN WITH THE SEED: the statements are not yours to turn. If you find one false, say at which input.
  Laid BY PROGRAM, IN A SANDBOX (cutbox-rows.mjs): the forced cells as the released guide's own fill.sh prints them over the translation eb40ede4a33939f9… (all of the seat's roots in one cut). By AI agents, Wed Nov 11 2026. No macro, syntax, notation, axiom, sorry.
-/
import Derived.Test.YbulkcpiuFmtChecked
import GoSem.Claim
import GoSem.ClaimJoined
import GoSem.ClaimMapViews
import Derived.JoinedTies
import Derived.KernelRfl
namespace Go.Proofs.YbulkcpiuFmt
/- THE CELL 'sum', in the pinned program and in every row, IS THE sha256 OF THE DUMP (.gsa) THAT YbulkcpiuFmtProg.lean LOADS. Nothing in Lean hashes anything: it is a label: what it is worth is what the hold of that sum in a sandbox is worth. -/
noncomputable def Ybaf.pinned : Pinned := { name := "ybulkcpiufmt", sum := "eb40ede4a33939f9eded3dda4b26ca8259d02ca57ca2cde524e779d70bbf9a1b", checked := Ybaf.checked }
namespace Rows
def none {H : Type} : Left H := { results := [], args := [] }

/- WHAT THE LISTED PACKAGE-LEVEL VARIABLES READ AS WHEN THE CALL BEGINS. Each datum BY PROGRAM (the guide's laid-datum.mjs) off the statement by which the dump's own 'gosem.cut.vars' lays the variable. In a bare row this is a premise. The card (YbulkcpiuFmtCards.lean) ties it to the program's text. -/
def laid_io_EOF {H : Type} : DataW H := .iface "*errors.errorString" (.ptr (.agg [.lit (.string [69, 79, 70])]))
def laid_io_ErrNoProgress {H : Type} : DataW H := .iface "*errors.errorString" (.ptr (.agg [.lit (.string [109, 117, 108, 116, 105, 112, 108, 101, 32, 82, 101, 97, 100, 32, 99, 97, 108, 108, 115, 32, 114, 101, 116, 117, 114, 110, 32, 110, 111, 32, 100, 97, 116, 97, 32, 111, 114, 32, 101, 114, 114, 111, 114])]))
def laid_bufio_errNegativeRead {H : Type} : DataW H := .iface "*errors.errorString" (.ptr (.agg [.lit (.string [98, 117, 102, 105, 111, 58, 32, 114, 101, 97, 100, 101, 114, 32, 114, 101, 116, 117, 114, 110, 101, 100, 32, 110, 101, 103, 97, 116, 105, 118, 101, 32, 99, 111, 117, 110, 116, 32, 102, 114, 111, 109, 32, 82, 101, 97, 100])]))

/-- 'history.LawS4557BBytesThenEOF': WHATEVER THE INPUT: true; the input reads as it did. -/
def lawS4557BBytesThenEOFSpec : ChangeSpec := { name := "lawS4557BBytesThenEOF", fn := fun _ => fun
  | [d1, d2, d3] => { results := [.lit (.bool true)], args := [d1, d2, d3] }
  | _ => none }
def lawS4557BBytesThenEOFRow : OpenClaim := { program := "ybulkcpiufmt", sum := "eb40ede4a33939f9eded3dda4b26ca8259d02ca57ca2cde524e779d70bbf9a1b", func := "example.com/causeline/causeline/history.LawS4557BBytesThenEOF", spec := "lawS4557BBytesThenEOF", stops := ["fmt.errorf"], inPlace := ["fmt.errorf"], unfollowed := true, recurses := true, named := ["io.EOF", "bufio.errNegativeRead", "io.ErrNoProgress"], apart := false, laid := [("io.EOF", laid_io_EOF), ("io.ErrNoProgress", laid_io_ErrNoProgress), ("bufio.errNegativeRead", laid_bufio_errNegativeRead)] }
/-- NO THEOREM (fmt's text is open here; it may be false): for the released tool's asking of the row's closed facts alone. THE STATEMENT IS 'LawS4557BBytesThenEOFToldSaid' (YbulkcpiuFmtCards.lean). -/
def LawS4557BBytesThenEOFFormAsk : Prop := lawS4557BBytesThenEOFRow.holds Ybaf.pinned (OpenSpec.ofChange lawS4557BBytesThenEOFSpec)

/-- ITS FALSE NEIGHBOUR: 'it returns false'. Refute it at one input. -/
def lawS4557BBytesThenEOFWrong : ChangeSpec := { name := "lawS4557BBytesThenEOF", fn := fun _ => fun
  | [d1, d2, d3] => { results := [.lit (.bool false)], args := [d1, d2, d3] }
  | _ => none }
def LawS4557BBytesThenEOFWrongFormAsk : Prop := lawS4557BBytesThenEOFRow.holds Ybaf.pinned (OpenSpec.ofChange lawS4557BBytesThenEOFWrong)

/-- 'history.LawS4557BFailure': WHATEVER THE INPUT: true; the input reads as it did. -/
def lawS4557BFailureSpec : ChangeSpec := { name := "lawS4557BFailure", fn := fun _ => fun
  | [d1, d2, d3] => { results := [.lit (.bool true)], args := [d1, d2, d3] }
  | _ => none }
def lawS4557BFailureRow : OpenClaim := { program := "ybulkcpiufmt", sum := "eb40ede4a33939f9eded3dda4b26ca8259d02ca57ca2cde524e779d70bbf9a1b", func := "example.com/causeline/causeline/history.LawS4557BFailure", spec := "lawS4557BFailure", stops := ["fmt.errorf"], inPlace := ["fmt.errorf", "internal/reflectlite.TypeOf"], unfollowed := true, recurses := true, named := ["io.EOF", "bufio.errNegativeRead", "io.ErrNoProgress"], apart := false, laid := [("io.EOF", laid_io_EOF), ("io.ErrNoProgress", laid_io_ErrNoProgress), ("bufio.errNegativeRead", laid_bufio_errNegativeRead)] }
/-- NO THEOREM (fmt's text is open here; it may be false): for the released tool's asking of the row's closed facts alone. THE STATEMENT IS 'LawS4557BFailureToldSaid' (YbulkcpiuFmtCards.lean). -/
def LawS4557BFailureFormAsk : Prop := lawS4557BFailureRow.holds Ybaf.pinned (OpenSpec.ofChange lawS4557BFailureSpec)

/-- ITS FALSE NEIGHBOUR: 'it returns false'. Refute it at one input. -/
def lawS4557BFailureWrong : ChangeSpec := { name := "lawS4557BFailure", fn := fun _ => fun
  | [d1, d2, d3] => { results := [.lit (.bool false)], args := [d1, d2, d3] }
  | _ => none }
def LawS4557BFailureWrongFormAsk : Prop := lawS4557BFailureRow.holds Ybaf.pinned (OpenSpec.ofChange lawS4557BFailureWrong)

end Rows
end Go.Proofs.YbulkcpiuFmt
