/-
  DERIVED. GIVEN WITH THE SEED: THE CARDS: each row of YbulkbjrmDoorRows.lean that lists a variable, with what it lists TIED to the program's text (the seventh form; the later family's looks); each row that meets fmt, with fmt's text TOLD by the authors' own Lean function (tested against real Go, not proved from fmt's source: count such statements apart). THE CARD IS WHAT COUNTS. Prove the row's statement (the work); the ties are given (YbulkbjrmDoorTie.lean); close each card by the builder's one call (the guide's Derived/Test/ToyasCard.lean, 'card_holds'). Laid BY PROGRAM, IN A SANDBOX (cutbox-door.mjs). By AI agents, Wed Nov 11 2026. No macro, syntax, notation, axiom, sorry.
-/
import Derived.Test.YbulkbjrmDoorRows
import GoSem.ClaimSeven
namespace Go.Proofs.YbulkbjrmDoor
namespace Rows

/-- THE TIED CARD OF 'lexer.LawS3028CTable'. -/
def lawS3028CTableCard : Claim7 := { stood := { row := lawS3028CTableRow, standIns := [], harness := (true, "5f4ff064c1e0886ca753424ca1e168d9f393af3c59043bb6b65dbf5b3c51db08"), looks := false }, kinds := [], alts := [], laidByText := true, laidKinds := [.data], laidTests := true, laidLooks := .later }
def LawS3028CTableCardSaid : Prop := Claim7.holds Ybad.pinned (.plain (OpenSpec.ofChange lawS3028CTableSpec)) lawS3028CTableCard

/-- THE TIED CARD OF 'lexer.LawS3028CDistinct'. -/
def lawS3028CDistinctCard : Claim7 := { stood := { row := lawS3028CDistinctRow, standIns := [], harness := (true, "5f4ff064c1e0886ca753424ca1e168d9f393af3c59043bb6b65dbf5b3c51db08"), looks := false }, kinds := [], alts := [], laidByText := true, laidKinds := [.data], laidTests := true, laidLooks := .later }
def LawS3028CDistinctCardSaid : Prop := Claim7.holds Ybad.pinned (.plain (OpenSpec.ofChange lawS3028CDistinctSpec)) lawS3028CDistinctCard
end Rows
end Go.Proofs.YbulkbjrmDoor
