/-
  No cell of these rows narrows 'for every input' (looked for: loops, veiled, ifaces, maps, wideKeys, modest, calm, conditions, laid).
  DERIVED. THE GIVEN ROWS OF THIS SEAT. 2 by the template 'for every input the law returns true; each argument reads behind the call as it read before'; 0 by the template 'total and deterministic' (their statements: YbulkbjneTotals.lean).
  GIVEN WITH THE SEED: the statements are not yours to turn. If you find one false, say at which input.
  Laid BY PROGRAM, IN A SANDBOX (cutbox-rows.mjs): the forced cells as the released guide's own fill.sh prints them over the translation ebb2317abe662b99… (all of the seat's roots in one cut). By AI agents, Wed Nov 11 2026. No macro, syntax, notation, axiom, sorry.
-/
import Derived.Test.YbulkbjneChecked
import GoSem.Claim
import GoSem.ClaimJoined
import GoSem.ClaimMapViews
import Derived.JoinedTies
import Derived.KernelRfl
namespace Go.Proofs.Ybulkbjne
/- THE CELL 'sum', in the pinned program and in every row, IS THE sha256 OF THE DUMP (.gsa) THAT YbulkbjneProg.lean LOADS. Nothing in Lean hashes anything: it is a label: what it is worth is what the hold of that sum in a sandbox is worth. -/
noncomputable def Yba.pinned : Pinned := { name := "ybulkbjne", sum := "ebb2317abe662b9912de29b3a60661b7d63209d21aab9c7341cfe95d89453b3e", checked := Yba.checked }
namespace Rows
def none {H : Type} : Left H := { results := [], args := [] }

/-- 'plan.LawS3020BFirst': WHATEVER THE INPUT: true; the input reads as it did. -/
def lawS3020BFirstSpec : ChangeSpec := { name := "lawS3020BFirst", fn := fun _ => fun
  | [d1, d2] => { results := [.lit (.bool true)], args := [d1, d2] }
  | _ => none }
def lawS3020BFirstRow : OpenClaim := { program := "ybulkbjne", sum := "ebb2317abe662b9912de29b3a60661b7d63209d21aab9c7341cfe95d89453b3e", func := "example.com/vestry/vestry/plan.LawS3020BFirst", spec := "lawS3020BFirst", apart := false }
def LawS3020BFirstSaid : Prop := lawS3020BFirstRow.holds Yba.pinned (OpenSpec.ofChange lawS3020BFirstSpec)

/-- ITS FALSE NEIGHBOUR: 'it returns false'. Refute it at one input. -/
def lawS3020BFirstWrong : ChangeSpec := { name := "lawS3020BFirst", fn := fun _ => fun
  | [d1, d2] => { results := [.lit (.bool false)], args := [d1, d2] }
  | _ => none }
def LawS3020BFirstWrongFalsely : Prop := lawS3020BFirstRow.holds Yba.pinned (OpenSpec.ofChange lawS3020BFirstWrong)

/-- 'plan.LawS3020BHit': WHATEVER THE INPUT: true; the input reads as it did. -/
def lawS3020BHitSpec : ChangeSpec := { name := "lawS3020BHit", fn := fun _ => fun
  | [d1, d2] => { results := [.lit (.bool true)], args := [d1, d2] }
  | _ => none }
def lawS3020BHitRow : OpenClaim := { program := "ybulkbjne", sum := "ebb2317abe662b9912de29b3a60661b7d63209d21aab9c7341cfe95d89453b3e", func := "example.com/vestry/vestry/plan.LawS3020BHit", spec := "lawS3020BHit", apart := false }
def LawS3020BHitSaid : Prop := lawS3020BHitRow.holds Yba.pinned (OpenSpec.ofChange lawS3020BHitSpec)

/-- ITS FALSE NEIGHBOUR: 'it returns false'. Refute it at one input. -/
def lawS3020BHitWrong : ChangeSpec := { name := "lawS3020BHit", fn := fun _ => fun
  | [d1, d2] => { results := [.lit (.bool false)], args := [d1, d2] }
  | _ => none }
def LawS3020BHitWrongFalsely : Prop := lawS3020BHitRow.holds Yba.pinned (OpenSpec.ofChange lawS3020BHitWrong)

end Rows
end Go.Proofs.Ybulkbjne
