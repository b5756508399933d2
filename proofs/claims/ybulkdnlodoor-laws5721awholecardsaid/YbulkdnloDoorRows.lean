/-
  NARROWER THAN 'FOR EVERY INPUT', by the rows' own cells (each row's printed sentence says how): LawS5721AWhole: laid · LawS5721ASeq: laid.
  DERIVED. THE GIVEN ROWS OF THIS SEAT. 2 by the template 'for every input the law returns true; each argument reads behind the call as it read before'; 0 by the template 'total and deterministic' (their statements: YbulkdnloDoorTotals.lean).
  GIVEN WITH THE SEED: the statements are not yours to turn. If you find one false, say at which input.
  Laid BY PROGRAM, IN A SANDBOX (cutbox-rows.mjs): the forced cells as the released guide's own fill.sh prints them over the translation 780251e0f669b08a… (all of the seat's roots in one cut). By AI agents, Wed Nov 11 2026. No macro, syntax, notation, axiom, sorry.
-/
import Derived.Test.YbulkdnloDoorChecked
import GoSem.Claim
import GoSem.ClaimJoined
import GoSem.ClaimMapViews
import Derived.JoinedTies
import Derived.KernelRfl
namespace Go.Proofs.YbulkdnloDoor
/- THE CELL 'sum', in the pinned program and in every row, IS THE sha256 OF THE DUMP (.gsa) THAT YbulkdnloDoorProg.lean LOADS. Nothing in Lean hashes anything: it is a label: what it is worth is what the hold of that sum in a sandbox is worth. -/
noncomputable def Ybad.pinned : Pinned := { name := "ybulkdnlodoor", sum := "780251e0f669b08aae259e68fc925fcafbb158fff5b00852636ee552d9957267", checked := Ybad.checked }
namespace Rows
def none {H : Type} : Left H := { results := [], args := [] }

/- WHAT THE LISTED PACKAGE-LEVEL VARIABLES READ AS WHEN THE CALL BEGINS. Each datum BY PROGRAM (the guide's laid-datum.mjs) off the statement by which the dump's own 'gosem.cut.vars' lays the variable. In a bare row this is a premise. The card (YbulkdnloDoorCards.lean) ties it to the program's text. -/
def laid_io_ErrShortBuffer {H : Type} : DataW H := .iface "*errors.errorString" (.ptr (.agg [.lit (.string [115, 104, 111, 114, 116, 32, 98, 117, 102, 102, 101, 114])]))
def laid_io_EOF {H : Type} : DataW H := .iface "*errors.errorString" (.ptr (.agg [.lit (.string [69, 79, 70])]))
def laid_io_ErrUnexpectedEOF {H : Type} : DataW H := .iface "*errors.errorString" (.ptr (.agg [.lit (.string [117, 110, 101, 120, 112, 101, 99, 116, 101, 100, 32, 69, 79, 70])]))

/-- 'paged.LawS5721AWhole': WHATEVER THE INPUT: true; the input reads as it did. -/
def lawS5721AWholeSpec : ChangeSpec := { name := "lawS5721AWhole", fn := fun _ => fun
  | [d1, d2, d3, d4, d5, d6, d7] => { results := [.lit (.bool true)], args := [d1, d2, d3, d4, d5, d6, d7] }
  | _ => none }
def lawS5721AWholeRow : OpenClaim := { program := "ybulkdnlodoor", sum := "780251e0f669b08aae259e68fc925fcafbb158fff5b00852636ee552d9957267", func := "example.com/seriate/seriate/internal/paged.LawS5721AWhole", spec := "lawS5721AWhole", unfollowed := true, recurses := true, named := ["io.EOF", "io.ErrUnexpectedEOF", "io.ErrShortBuffer", "encoding/binary.LittleEndian"], apart := false, laid := [("io.ErrShortBuffer", laid_io_ErrShortBuffer), ("io.EOF", laid_io_EOF), ("io.ErrUnexpectedEOF", laid_io_ErrUnexpectedEOF)] }
def LawS5721AWholeSaid : Prop := lawS5721AWholeRow.holds Ybad.pinned (OpenSpec.ofChange lawS5721AWholeSpec)

/-- ITS FALSE NEIGHBOUR: 'it returns false'. Refute it at one input. -/
def lawS5721AWholeWrong : ChangeSpec := { name := "lawS5721AWhole", fn := fun _ => fun
  | [d1, d2, d3, d4, d5, d6, d7] => { results := [.lit (.bool false)], args := [d1, d2, d3, d4, d5, d6, d7] }
  | _ => none }
def LawS5721AWholeWrongFalsely : Prop := lawS5721AWholeRow.holds Ybad.pinned (OpenSpec.ofChange lawS5721AWholeWrong)

/-- 'paged.LawS5721ASeq': WHATEVER THE INPUT: true; the input reads as it did. -/
def lawS5721ASeqSpec : ChangeSpec := { name := "lawS5721ASeq", fn := fun _ => fun
  | [d1, d2, d3] => { results := [.lit (.bool true)], args := [d1, d2, d3] }
  | _ => none }
def lawS5721ASeqRow : OpenClaim := { program := "ybulkdnlodoor", sum := "780251e0f669b08aae259e68fc925fcafbb158fff5b00852636ee552d9957267", func := "example.com/seriate/seriate/internal/paged.LawS5721ASeq", spec := "lawS5721ASeq", unfollowed := true, recurses := true, named := ["io.EOF", "io.ErrUnexpectedEOF", "io.ErrShortBuffer", "encoding/binary.LittleEndian"], apart := false, laid := [("io.ErrShortBuffer", laid_io_ErrShortBuffer), ("io.EOF", laid_io_EOF), ("io.ErrUnexpectedEOF", laid_io_ErrUnexpectedEOF)] }
def LawS5721ASeqSaid : Prop := lawS5721ASeqRow.holds Ybad.pinned (OpenSpec.ofChange lawS5721ASeqSpec)

/-- ITS FALSE NEIGHBOUR: 'it returns false'. Refute it at one input. -/
def lawS5721ASeqWrong : ChangeSpec := { name := "lawS5721ASeq", fn := fun _ => fun
  | [d1, d2, d3] => { results := [.lit (.bool false)], args := [d1, d2, d3] }
  | _ => none }
def LawS5721ASeqWrongFalsely : Prop := lawS5721ASeqRow.holds Ybad.pinned (OpenSpec.ofChange lawS5721ASeqWrong)

end Rows
end Go.Proofs.YbulkdnloDoor
