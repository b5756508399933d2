/-
  DERIVED. GIVEN WITH THE SEED: THE CARDS: each row of YbulkdnloDoorRows.lean that lists a variable, with what it lists TIED to the program's text (the seventh form; the later family's looks); each row that meets fmt, with fmt's text TOLD by the authors' own Lean function (tested against real Go, not proved from fmt's source: count such statements apart). THE CARD IS WHAT COUNTS. Prove the row's statement (the work); the ties are given (YbulkdnloDoorTie.lean); close each card by the builder's one call (the guide's Derived/Test/ToyasCard.lean, 'card_holds'). Laid BY PROGRAM, IN A SANDBOX (cutbox-door.mjs). By AI agents, Wed Nov 11 2026. No macro, syntax, notation, axiom, sorry.
-/
import Derived.Test.YbulkdnloDoorRows
import GoSem.ClaimSeven
namespace Go.Proofs.YbulkdnloDoor
namespace Rows

/-- THE TIED CARD OF 'paged.LawS5721AWhole'. -/
def lawS5721AWholeCard : Claim7 := { stood := { row := lawS5721AWholeRow, standIns := [], harness := (true, "a5800313e1dff7cbea4b3d9116a2300b5b4e9414013726cd3f55ba276be96055"), looks := true }, kinds := [], alts := [], laidByText := true, laidKinds := [.sentinel, .sentinel, .sentinel], laidTests := true, laidLooks := .later }
def LawS5721AWholeCardSaid : Prop := Claim7.holds Ybad.pinned (.plain (OpenSpec.ofChange lawS5721AWholeSpec)) lawS5721AWholeCard

/-- THE TIED CARD OF 'paged.LawS5721ASeq'. -/
def lawS5721ASeqCard : Claim7 := { stood := { row := lawS5721ASeqRow, standIns := [], harness := (true, "a5800313e1dff7cbea4b3d9116a2300b5b4e9414013726cd3f55ba276be96055"), looks := true }, kinds := [], alts := [], laidByText := true, laidKinds := [.sentinel, .sentinel, .sentinel], laidTests := true, laidLooks := .later }
def LawS5721ASeqCardSaid : Prop := Claim7.holds Ybad.pinned (.plain (OpenSpec.ofChange lawS5721ASeqSpec)) lawS5721ASeqCard
end Rows
end Go.Proofs.YbulkdnloDoor
