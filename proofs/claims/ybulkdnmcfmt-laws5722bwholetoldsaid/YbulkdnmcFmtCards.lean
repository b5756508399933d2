/-
  DERIVED. GIVEN WITH THE SEED: THE CARDS: each row of YbulkdnmcFmtRows.lean that lists a variable, with what it lists TIED to the program's text (the seventh form; the later family's looks); each row that meets fmt, with fmt's text TOLD by the authors' own Lean function (tested against real Go, not proved from fmt's source: count such statements apart). THE CARD IS WHAT COUNTS. Prove the row's statement (the work); the ties are given (YbulkdnmcFmtTie.lean); close each card by the builder's one call (the guide's Derived/Test/ToyasCard.lean, 'card_holds'). Laid BY PROGRAM, IN A SANDBOX (cutbox-door.mjs). By AI agents, Wed Nov 11 2026. No macro, syntax, notation, axiom, sorry.
-/
import Derived.Test.YbulkdnmcFmtRows
import GoSem.ClaimSeven
namespace Go.Proofs.YbulkdnmcFmt
namespace Rows

/-- THE TOLD AND TIED CARD OF 'countersign.LawS5722BWhole'. -/
def lawS5722BWholeCard : Claim7 := { stood := { row := lawS5722BWholeRow, standIns := [], harness := (true, "eb37f8855af28170a49322178a9a406f2ef5f02fd9a0aaf511c943ce3d325337"), looks := false }, told := true, laidByText := true, laidKinds := [.sentinel], laidTests := true, laidLooks := .later, goes := false }
def LawS5722BWholeToldSaid : Prop := Claim7.holds Ybaf.pinned (.plain (OpenSpec.ofChange lawS5722BWholeSpec)) lawS5722BWholeCard
/-- ITS FALSE NEIGHBOUR. Refute it at one input. -/
def LawS5722BWholeToldWrongFalsely : Prop := Claim7.holds Ybaf.pinned (.plain (OpenSpec.ofChange lawS5722BWholeWrong)) lawS5722BWholeCard
end Rows
end Go.Proofs.YbulkdnmcFmt
