/-
  NARROWER THAN 'FOR EVERY INPUT', by the rows' own cells (each row's printed sentence says how): LawS3022CStream: laid · LawS3022CFail: laid.
  DERIVED. THE GIVEN ROWS OF THIS SEAT. 4 by the template 'for every input the law returns true; each argument reads behind the call as it read before'; 0 by the template 'total and deterministic' (their statements: YbulkbjogFmtTotals.lean).
  GIVEN WITH THE SEED: the statements are not yours to turn. If you find one false, say at which input.
  Laid BY PROGRAM, IN A SANDBOX (cutbox-rows.mjs): the forced cells as the released guide's own fill.sh prints them over the translation 4a09f16d18290a24… (all of the seat's roots in one cut). By AI agents, Wed Nov 11 2026. No macro, syntax, notation, axiom, sorry.
-/
import Derived.Test.YbulkbjogFmtChecked
import GoSem.Claim
import GoSem.ClaimJoined
import GoSem.ClaimMapViews
import Derived.JoinedTies
import Derived.KernelRfl
namespace Go.Proofs.YbulkbjogFmt
/- THE CELL 'sum', in the pinned program and in every row, IS THE sha256 OF THE DUMP (.gsa) THAT YbulkbjogFmtProg.lean LOADS. Nothing in Lean hashes anything: it is a label: what it is worth is what the hold of that sum in a sandbox is worth. -/
noncomputable def Ybaf.pinned : Pinned := { name := "ybulkbjogfmt", sum := "4a09f16d18290a24ddfd4932e82459b859acb96ba45205dc350aa3c0ba92779a", checked := Ybaf.checked }
namespace Rows
def none {H : Type} : Left H := { results := [], args := [] }

/- WHAT THE LISTED PACKAGE-LEVEL VARIABLES READ AS WHEN THE CALL BEGINS. Each datum BY PROGRAM (the guide's laid-datum.mjs) off the statement by which the dump's own 'gosem.cut.vars' lays the variable. In a bare row this is a premise. The card (YbulkbjogFmtCards.lean) ties it to the program's text. -/
def laid_io_ErrShortWrite {H : Type} : DataW H := .iface "*errors.errorString" (.ptr (.agg [.lit (.string [115, 104, 111, 114, 116, 32, 119, 114, 105, 116, 101])]))

/-- 'report.LawS3022AValidReturns': WHATEVER THE INPUT: true; the input reads as it did. -/
def lawS3022AValidReturnsSpec : ChangeSpec := { name := "lawS3022AValidReturns", fn := fun _ => fun
  | [d1, d2, d3] => { results := [.lit (.bool true)], args := [d1, d2, d3] }
  | _ => none }
def lawS3022AValidReturnsRow : OpenClaim := { program := "ybulkbjogfmt", sum := "4a09f16d18290a24ddfd4932e82459b859acb96ba45205dc350aa3c0ba92779a", func := "example.com/sietelink/sietelink/pkg/report.LawS3022AValidReturns", spec := "lawS3022AValidReturns", stops := ["fmt.Sprintf", "fmt.errorf"], inPlace := ["fmt.Sprintf"], apart := false }
/-- NO THEOREM (fmt's text is open here; it may be false): for the released tool's asking of the row's closed facts alone. THE STATEMENT IS 'LawS3022AValidReturnsToldSaid' (YbulkbjogFmtCards.lean). -/
def LawS3022AValidReturnsFormAsk : Prop := lawS3022AValidReturnsRow.holds Ybaf.pinned (OpenSpec.ofChange lawS3022AValidReturnsSpec)

/-- ITS FALSE NEIGHBOUR: 'it returns false'. Refute it at one input. -/
def lawS3022AValidReturnsWrong : ChangeSpec := { name := "lawS3022AValidReturns", fn := fun _ => fun
  | [d1, d2, d3] => { results := [.lit (.bool false)], args := [d1, d2, d3] }
  | _ => none }
def LawS3022AValidReturnsWrongFormAsk : Prop := lawS3022AValidReturnsRow.holds Ybaf.pinned (OpenSpec.ofChange lawS3022AValidReturnsWrong)

/-- 'report.LawS3022AAgreesWithModel': WHATEVER THE INPUT: true; the input reads as it did. -/
def lawS3022AAgreesWithModelSpec : ChangeSpec := { name := "lawS3022AAgreesWithModel", fn := fun _ => fun
  | [d1, d2] => { results := [.lit (.bool true)], args := [d1, d2] }
  | _ => none }
def lawS3022AAgreesWithModelRow : OpenClaim := { program := "ybulkbjogfmt", sum := "4a09f16d18290a24ddfd4932e82459b859acb96ba45205dc350aa3c0ba92779a", func := "example.com/sietelink/sietelink/pkg/report.LawS3022AAgreesWithModel", spec := "lawS3022AAgreesWithModel", stops := ["fmt.Sprintf", "fmt.errorf"], inPlace := ["fmt.Sprintf"], apart := false }
/-- NO THEOREM (fmt's text is open here; it may be false): for the released tool's asking of the row's closed facts alone. THE STATEMENT IS 'LawS3022AAgreesWithModelToldSaid' (YbulkbjogFmtCards.lean). -/
def LawS3022AAgreesWithModelFormAsk : Prop := lawS3022AAgreesWithModelRow.holds Ybaf.pinned (OpenSpec.ofChange lawS3022AAgreesWithModelSpec)

/-- ITS FALSE NEIGHBOUR: 'it returns false'. Refute it at one input. -/
def lawS3022AAgreesWithModelWrong : ChangeSpec := { name := "lawS3022AAgreesWithModel", fn := fun _ => fun
  | [d1, d2] => { results := [.lit (.bool false)], args := [d1, d2] }
  | _ => none }
def LawS3022AAgreesWithModelWrongFormAsk : Prop := lawS3022AAgreesWithModelRow.holds Ybaf.pinned (OpenSpec.ofChange lawS3022AAgreesWithModelWrong)

/-- 'pcap.LawS3022CStream': WHATEVER THE INPUT: true; the input reads as it did. -/
def lawS3022CStreamSpec : ChangeSpec := { name := "lawS3022CStream", fn := fun _ => fun
  | [d1, d2, d3] => { results := [.lit (.bool true)], args := [d1, d2, d3] }
  | _ => none }
def lawS3022CStreamRow : OpenClaim := { program := "ybulkbjogfmt", sum := "4a09f16d18290a24ddfd4932e82459b859acb96ba45205dc350aa3c0ba92779a", func := "example.com/sietelink/sietelink/pkg/pcap.LawS3022CStream", spec := "lawS3022CStream", stops := ["fmt.Sprintf", "fmt.errorf"], inPlace := ["fmt.Sprintf", "fmt.errorf"], unfollowed := true, recurses := true, named := ["encoding/binary.LittleEndian", "io.ErrShortWrite"], apart := false, laid := [("io.ErrShortWrite", laid_io_ErrShortWrite)] }
/-- NO THEOREM (fmt's text is open here; it may be false): for the released tool's asking of the row's closed facts alone. THE STATEMENT IS 'LawS3022CStreamToldSaid' (YbulkbjogFmtCards.lean). -/
def LawS3022CStreamFormAsk : Prop := lawS3022CStreamRow.holds Ybaf.pinned (OpenSpec.ofChange lawS3022CStreamSpec)

/-- ITS FALSE NEIGHBOUR: 'it returns false'. Refute it at one input. -/
def lawS3022CStreamWrong : ChangeSpec := { name := "lawS3022CStream", fn := fun _ => fun
  | [d1, d2, d3] => { results := [.lit (.bool false)], args := [d1, d2, d3] }
  | _ => none }
def LawS3022CStreamWrongFormAsk : Prop := lawS3022CStreamRow.holds Ybaf.pinned (OpenSpec.ofChange lawS3022CStreamWrong)

/-- 'pcap.LawS3022CFail': WHATEVER THE INPUT: true; the input reads as it did. -/
def lawS3022CFailSpec : ChangeSpec := { name := "lawS3022CFail", fn := fun _ => fun
  | [d1, d2] => { results := [.lit (.bool true)], args := [d1, d2] }
  | _ => none }
def lawS3022CFailRow : OpenClaim := { program := "ybulkbjogfmt", sum := "4a09f16d18290a24ddfd4932e82459b859acb96ba45205dc350aa3c0ba92779a", func := "example.com/sietelink/sietelink/pkg/pcap.LawS3022CFail", spec := "lawS3022CFail", stops := ["fmt.Sprintf", "fmt.errorf"], inPlace := ["fmt.Sprintf", "fmt.errorf", "internal/reflectlite.TypeOf"], unfollowed := true, recurses := true, named := ["encoding/binary.LittleEndian", "io.ErrShortWrite"], apart := false, laid := [("io.ErrShortWrite", laid_io_ErrShortWrite)] }
/-- NO THEOREM (fmt's text is open here; it may be false): for the released tool's asking of the row's closed facts alone. THE STATEMENT IS 'LawS3022CFailToldSaid' (YbulkbjogFmtCards.lean). -/
def LawS3022CFailFormAsk : Prop := lawS3022CFailRow.holds Ybaf.pinned (OpenSpec.ofChange lawS3022CFailSpec)

/-- ITS FALSE NEIGHBOUR: 'it returns false'. Refute it at one input. -/
def lawS3022CFailWrong : ChangeSpec := { name := "lawS3022CFail", fn := fun _ => fun
  | [d1, d2] => { results := [.lit (.bool false)], args := [d1, d2] }
  | _ => none }
def LawS3022CFailWrongFormAsk : Prop := lawS3022CFailRow.holds Ybaf.pinned (OpenSpec.ofChange lawS3022CFailWrong)

end Rows
end Go.Proofs.YbulkbjogFmt
