/-
  DERIVED. GIVEN WITH THE SEED: THE CARDS: each row of YbulkbjqyFmtRows.lean that lists a variable, with what it lists TIED to the program's text (the seventh form; the later family's looks); each row that meets fmt, with fmt's text TOLD by the authors' own Lean function (tested against real Go, not proved from fmt's source: count such statements apart). THE CARD IS WHAT COUNTS. Prove the row's statement (the work); the ties are given (YbulkbjqyFmtTie.lean); close each card by the builder's one call (the guide's Derived/Test/ToyasCard.lean, 'card_holds'). Laid BY PROGRAM, IN A SANDBOX (cutbox-door.mjs). By AI agents, Wed Nov 11 2026. No macro, syntax, notation, axiom, sorry.
-/
import Derived.Test.YbulkbjqyFmtRows
import GoSem.ClaimSeven
namespace Go.Proofs.YbulkbjqyFmt
namespace Rows

/-- THE TOLD CARD OF 'longhaul.LawS3027AOrder'. -/
def lawS3027AOrderCard : Claim7 := { stood := { row := lawS3027AOrderRow, standIns := [], harness := (true, "30f23d4d7271f3f5abdc4d20e453aec30ef617f3b5e9fdd93fcd57906710009a"), looks := true }, told := true, goes := false }
def LawS3027AOrderToldSaid : Prop := Claim7.holds Ybaf.pinned (.plain (OpenSpec.ofChange lawS3027AOrderSpec)) lawS3027AOrderCard
/-- ITS FALSE NEIGHBOUR. Refute it at one input. -/
def LawS3027AOrderToldWrongFalsely : Prop := Claim7.holds Ybaf.pinned (.plain (OpenSpec.ofChange lawS3027AOrderWrong)) lawS3027AOrderCard

/-- THE TOLD CARD OF 'longhaul.LawS3027AKeeps'. -/
def lawS3027AKeepsCard : Claim7 := { stood := { row := lawS3027AKeepsRow, standIns := [], harness := (true, "30f23d4d7271f3f5abdc4d20e453aec30ef617f3b5e9fdd93fcd57906710009a"), looks := true }, told := true, goes := false }
def LawS3027AKeepsToldSaid : Prop := Claim7.holds Ybaf.pinned (.plain (OpenSpec.ofChange lawS3027AKeepsSpec)) lawS3027AKeepsCard
/-- ITS FALSE NEIGHBOUR. Refute it at one input. -/
def LawS3027AKeepsToldWrongFalsely : Prop := Claim7.holds Ybaf.pinned (.plain (OpenSpec.ofChange lawS3027AKeepsWrong)) lawS3027AKeepsCard
end Rows
end Go.Proofs.YbulkbjqyFmt
