/-
  NARROWER THAN 'FOR EVERY INPUT', by the rows' own cells (each row's printed sentence says how): LawS3028CTable: laid · LawS3028CDistinct: laid.
  DERIVED. THE GIVEN ROWS OF THIS SEAT. 2 by the template 'for every input the law returns true; each argument reads behind the call as it read before'; 0 by the template 'total and deterministic' (their statements: YbulkbjrmDoorTotals.lean).
  GIVEN WITH THE SEED: the statements are not yours to turn. If you find one false, say at which input.
  Laid BY PROGRAM, IN A SANDBOX (cutbox-rows.mjs): the forced cells as the released guide's own fill.sh prints them over the translation 378bdb0ef48a5924… (all of the seat's roots in one cut). By AI agents, Wed Nov 11 2026. No macro, syntax, notation, axiom, sorry.
-/
import Derived.Test.YbulkbjrmDoorChecked
import GoSem.Claim
import GoSem.ClaimJoined
import GoSem.ClaimMapViews
import Derived.JoinedTies
import Derived.KernelRfl
namespace Go.Proofs.YbulkbjrmDoor
/- THE CELL 'sum', in the pinned program and in every row, IS THE sha256 OF THE DUMP (.gsa) THAT YbulkbjrmDoorProg.lean LOADS. Nothing in Lean hashes anything: it is a label: what it is worth is what the hold of that sum in a sandbox is worth. -/
noncomputable def Ybad.pinned : Pinned := { name := "ybulkbjrmdoor", sum := "378bdb0ef48a592481559d01328851de9ad54ccbc97b813526ecac2d6841d7fa", checked := Ybad.checked }
namespace Rows
def none {H : Type} : Left H := { results := [], args := [] }

/- WHAT THE LISTED PACKAGE-LEVEL VARIABLES READ AS WHEN THE CALL BEGINS. Each datum BY PROGRAM (the guide's laid-datum.mjs) off the statement by which the dump's own 'gosem.cut.vars' lays the variable. In a bare row this is a premise. The card (YbulkbjrmDoorCards.lean) ties it to the program's text. -/
def laid_example_com_stackloom_stackloom_lexer_spelling {H : Type} : DataW H := .agg [.lit (.string []), .lit (.string []), .lit (.string []), .lit (.string []), .lit (.string [43]), .lit (.string [45]), .lit (.string [42]), .lit (.string [47]), .lit (.string [60]), .lit (.string [60, 61]), .lit (.string [62]), .lit (.string [62, 61]), .lit (.string [61, 61]), .lit (.string [33, 61]), .lit (.string [40]), .lit (.string [41]), .lit (.string [123]), .lit (.string [125]), .lit (.string [44]), .lit (.string [61]), .lit (.string [59]), .lit (.string [115, 116, 97, 114, 116]), .lit (.string [101, 110, 100]), .lit (.string [112, 114, 105, 110, 116]), .lit (.string [116, 114, 117, 101]), .lit (.string [102, 97, 108, 115, 101]), .lit (.string [110, 111, 116]), .lit (.string [97, 110, 100]), .lit (.string [111, 114]), .lit (.string [105, 102]), .lit (.string [101, 108, 115, 101]), .lit (.string [119, 104, 105, 108, 101]), .lit (.string [98, 114, 101, 97, 107]), .lit (.string [99, 111, 110, 116, 105, 110, 117, 101]), .lit (.string [102, 117, 110, 99]), .lit (.string [114, 101, 116, 117, 114, 110])]

/-- 'lexer.LawS3028CTable': WHATEVER THE INPUT: true; the input reads as it did. -/
def lawS3028CTableSpec : ChangeSpec := { name := "lawS3028CTable", vars := ["example.com/stackloom/stackloom/lexer.spelling"], fn := fun _ => fun
  | [d, g1] => { results := [.lit (.bool true)], args := [d], vars := [g1] }
  | _ => none }
def lawS3028CTableRow : OpenClaim := { program := "ybulkbjrmdoor", sum := "378bdb0ef48a592481559d01328851de9ad54ccbc97b813526ecac2d6841d7fa", func := "example.com/stackloom/stackloom/lexer.LawS3028CTable", spec := "lawS3028CTable", named := ["example.com/stackloom/stackloom/lexer.spelling"], apart := false, laid := [("example.com/stackloom/stackloom/lexer.spelling", laid_example_com_stackloom_stackloom_lexer_spelling)] }
def LawS3028CTableSaid : Prop := lawS3028CTableRow.holds Ybad.pinned (OpenSpec.ofChange lawS3028CTableSpec)

/-- ITS FALSE NEIGHBOUR: 'it returns false'. Refute it at one input. -/
def lawS3028CTableWrong : ChangeSpec := { name := "lawS3028CTable", vars := ["example.com/stackloom/stackloom/lexer.spelling"], fn := fun _ => fun
  | [d, g1] => { results := [.lit (.bool false)], args := [d], vars := [g1] }
  | _ => none }
def LawS3028CTableWrongFalsely : Prop := lawS3028CTableRow.holds Ybad.pinned (OpenSpec.ofChange lawS3028CTableWrong)

/-- 'lexer.LawS3028CDistinct': WHATEVER THE INPUT: true; the input reads as it did. -/
def lawS3028CDistinctSpec : ChangeSpec := { name := "lawS3028CDistinct", vars := ["example.com/stackloom/stackloom/lexer.spelling"], fn := fun _ => fun
  | [d1, d2, g1] => { results := [.lit (.bool true)], args := [d1, d2], vars := [g1] }
  | _ => none }
def lawS3028CDistinctRow : OpenClaim := { program := "ybulkbjrmdoor", sum := "378bdb0ef48a592481559d01328851de9ad54ccbc97b813526ecac2d6841d7fa", func := "example.com/stackloom/stackloom/lexer.LawS3028CDistinct", spec := "lawS3028CDistinct", named := ["example.com/stackloom/stackloom/lexer.spelling"], apart := false, laid := [("example.com/stackloom/stackloom/lexer.spelling", laid_example_com_stackloom_stackloom_lexer_spelling)] }
def LawS3028CDistinctSaid : Prop := lawS3028CDistinctRow.holds Ybad.pinned (OpenSpec.ofChange lawS3028CDistinctSpec)

/-- ITS FALSE NEIGHBOUR: 'it returns false'. Refute it at one input. -/
def lawS3028CDistinctWrong : ChangeSpec := { name := "lawS3028CDistinct", vars := ["example.com/stackloom/stackloom/lexer.spelling"], fn := fun _ => fun
  | [d1, d2, g1] => { results := [.lit (.bool false)], args := [d1, d2], vars := [g1] }
  | _ => none }
def LawS3028CDistinctWrongFalsely : Prop := lawS3028CDistinctRow.holds Ybad.pinned (OpenSpec.ofChange lawS3028CDistinctWrong)

end Rows
end Go.Proofs.YbulkbjrmDoor
