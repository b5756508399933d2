/-
  NARROWER THAN 'FOR EVERY INPUT', by the rows' own cells (each row's printed sentence says how): LawS5722BWhole: ifaces, laid.
  DERIVED. THE GIVEN ROWS OF THIS SEAT. 1 by the template 'for every input the law returns true; each argument reads behind the call as it read before'; 0 by the template 'total and deterministic' (their statements: YbulkdnmcFmtTotals.lean).
  GIVEN WITH THE SEED: the statements are not yours to turn. If you find one false, say at which input.
  Laid BY PROGRAM, IN A SANDBOX (cutbox-rows.mjs): the forced cells as the released guide's own fill.sh prints them over the translation 0534d073bebc8ef4… (all of the seat's roots in one cut). By AI agents, Wed Nov 11 2026. No macro, syntax, notation, axiom, sorry.
-/
import Derived.Test.YbulkdnmcFmtChecked
import GoSem.Claim
import GoSem.ClaimJoined
import GoSem.ClaimMapViews
import Derived.JoinedTies
import Derived.KernelRfl
namespace Go.Proofs.YbulkdnmcFmt
/- THE CELL 'sum', in the pinned program and in every row, IS THE sha256 OF THE DUMP (.gsa) THAT YbulkdnmcFmtProg.lean LOADS. Nothing in Lean hashes anything: it is a label: what it is worth is what the hold of that sum in a sandbox is worth. -/
noncomputable def Ybaf.pinned : Pinned := { name := "ybulkdnmcfmt", sum := "0534d073bebc8ef47205e6c3e89d6fd48e737770b9c133f1d67e9cf502217ff6", checked := Ybaf.checked }
namespace Rows
def none {H : Type} : Left H := { results := [], args := [] }

/- WHAT THE LISTED PACKAGE-LEVEL VARIABLES READ AS WHEN THE CALL BEGINS. Each datum BY PROGRAM (the guide's laid-datum.mjs) off the statement by which the dump's own 'gosem.cut.vars' lays the variable. In a bare row this is a premise. The card (YbulkdnmcFmtCards.lean) ties it to the program's text. -/
def laid_example_com_countersign_countersign_ErrValue {H : Type} : DataW H := .iface "*errors.errorString" (.ptr (.agg [.lit (.string [118, 97, 108, 117, 101])]))

/-- 'countersign.LawS5722BWhole': WHATEVER THE INPUT: true; the input reads as it did. -/
def lawS5722BWholeSpec : ChangeSpec := { name := "lawS5722BWhole", vars := ["example.com/countersign/countersign.ErrValue"], fn := fun _ => fun
  | [d1, d2, d3, d4, d5, d6, d7, d8, d9, d10, d11, d12, g1] => { results := [.lit (.bool true)], args := [d1, d2, d3, d4, d5, d6, d7, d8, d9, d10, d11, d12], vars := [g1] }
  | _ => none }
def lawS5722BWholeRow : OpenClaim := { program := "ybulkdnmcfmt", sum := "0534d073bebc8ef47205e6c3e89d6fd48e737770b9c133f1d67e9cf502217ff6", func := "example.com/countersign/countersign.LawS5722BWhole", spec := "lawS5722BWhole", stops := ["fmt.errorf"], inPlace := ["fmt.errorf"], recurses := true, named := ["encoding/binary.BigEndian", "example.com/countersign/countersign.ErrValue"], ifaces := true, plainKeys := false, apart := false, laid := [("example.com/countersign/countersign.ErrValue", laid_example_com_countersign_countersign_ErrValue)] }
/-- NO THEOREM (fmt's text is open here; it may be false): for the released tool's asking of the row's closed facts alone. THE STATEMENT IS 'LawS5722BWholeToldSaid' (YbulkdnmcFmtCards.lean). -/
def LawS5722BWholeFormAsk : Prop := lawS5722BWholeRow.holds Ybaf.pinned (OpenSpec.ofChange lawS5722BWholeSpec)

/-- ITS FALSE NEIGHBOUR: 'it returns false'. Refute it at one input. -/
def lawS5722BWholeWrong : ChangeSpec := { name := "lawS5722BWhole", vars := ["example.com/countersign/countersign.ErrValue"], fn := fun _ => fun
  | [d1, d2, d3, d4, d5, d6, d7, d8, d9, d10, d11, d12, g1] => { results := [.lit (.bool false)], args := [d1, d2, d3, d4, d5, d6, d7, d8, d9, d10, d11, d12], vars := [g1] }
  | _ => none }
def LawS5722BWholeWrongFormAsk : Prop := lawS5722BWholeRow.holds Ybaf.pinned (OpenSpec.ofChange lawS5722BWholeWrong)

end Rows
end Go.Proofs.YbulkdnmcFmt
