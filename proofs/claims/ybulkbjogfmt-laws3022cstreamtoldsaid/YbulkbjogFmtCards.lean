/-
  DERIVED. GIVEN WITH THE SEED: THE CARDS: each row of YbulkbjogFmtRows.lean that lists a variable, with what it lists TIED to the program's text (the seventh form; the later family's looks); each row that meets fmt, with fmt's text TOLD by the authors' own Lean function (tested against real Go, not proved from fmt's source: count such statements apart). THE CARD IS WHAT COUNTS. Prove the row's statement (the work); the ties are given (YbulkbjogFmtTie.lean); close each card by the builder's one call (the guide's Derived/Test/ToyasCard.lean, 'card_holds'). Laid BY PROGRAM, IN A SANDBOX (cutbox-door.mjs). By AI agents, Wed Nov 11 2026. No macro, syntax, notation, axiom, sorry.
-/
import Derived.Test.YbulkbjogFmtRows
import GoSem.ClaimSeven
namespace Go.Proofs.YbulkbjogFmt
namespace Rows

/-- THE TOLD CARD OF 'report.LawS3022AValidReturns'. -/
def lawS3022AValidReturnsCard : Claim7 := { stood := { row := lawS3022AValidReturnsRow, standIns := [], harness := (true, "f3b9b21836eb4cf5a1cdf57a55ad8abec94fedc813419b8aa31bbfcca999045b"), looks := true }, told := true, goes := false }
def LawS3022AValidReturnsToldSaid : Prop := Claim7.holds Ybaf.pinned (.plain (OpenSpec.ofChange lawS3022AValidReturnsSpec)) lawS3022AValidReturnsCard
/-- ITS FALSE NEIGHBOUR. Refute it at one input. -/
def LawS3022AValidReturnsToldWrongFalsely : Prop := Claim7.holds Ybaf.pinned (.plain (OpenSpec.ofChange lawS3022AValidReturnsWrong)) lawS3022AValidReturnsCard

/-- THE TOLD CARD OF 'report.LawS3022AAgreesWithModel'. -/
def lawS3022AAgreesWithModelCard : Claim7 := { stood := { row := lawS3022AAgreesWithModelRow, standIns := [], harness := (true, "f3b9b21836eb4cf5a1cdf57a55ad8abec94fedc813419b8aa31bbfcca999045b"), looks := true }, told := true, goes := false }
def LawS3022AAgreesWithModelToldSaid : Prop := Claim7.holds Ybaf.pinned (.plain (OpenSpec.ofChange lawS3022AAgreesWithModelSpec)) lawS3022AAgreesWithModelCard
/-- ITS FALSE NEIGHBOUR. Refute it at one input. -/
def LawS3022AAgreesWithModelToldWrongFalsely : Prop := Claim7.holds Ybaf.pinned (.plain (OpenSpec.ofChange lawS3022AAgreesWithModelWrong)) lawS3022AAgreesWithModelCard

/-- THE TOLD AND TIED CARD OF 'pcap.LawS3022CStream'. -/
def lawS3022CStreamCard : Claim7 := { stood := { row := lawS3022CStreamRow, standIns := [], harness := (true, "f3b9b21836eb4cf5a1cdf57a55ad8abec94fedc813419b8aa31bbfcca999045b"), looks := true }, told := true, laidByText := true, laidKinds := [.sentinel], laidTests := true, laidLooks := .later, goes := false }
def LawS3022CStreamToldSaid : Prop := Claim7.holds Ybaf.pinned (.plain (OpenSpec.ofChange lawS3022CStreamSpec)) lawS3022CStreamCard
/-- ITS FALSE NEIGHBOUR. Refute it at one input. -/
def LawS3022CStreamToldWrongFalsely : Prop := Claim7.holds Ybaf.pinned (.plain (OpenSpec.ofChange lawS3022CStreamWrong)) lawS3022CStreamCard

/-- THE TOLD AND TIED CARD OF 'pcap.LawS3022CFail'. -/
def lawS3022CFailCard : Claim7 := { stood := { row := lawS3022CFailRow, standIns := [], harness := (true, "f3b9b21836eb4cf5a1cdf57a55ad8abec94fedc813419b8aa31bbfcca999045b"), looks := true }, told := true, laidByText := true, laidKinds := [.sentinel], laidTests := true, laidLooks := .later, goes := false }
def LawS3022CFailToldSaid : Prop := Claim7.holds Ybaf.pinned (.plain (OpenSpec.ofChange lawS3022CFailSpec)) lawS3022CFailCard
/-- ITS FALSE NEIGHBOUR. Refute it at one input. -/
def LawS3022CFailToldWrongFalsely : Prop := Claim7.holds Ybaf.pinned (.plain (OpenSpec.ofChange lawS3022CFailWrong)) lawS3022CFailCard
end Rows
end Go.Proofs.YbulkbjogFmt
