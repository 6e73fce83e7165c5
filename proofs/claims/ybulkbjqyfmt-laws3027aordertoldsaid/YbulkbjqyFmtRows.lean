/-
  No cell of these rows narrows 'for every input' (looked for: loops, veiled, ifaces, maps, wideKeys, modest, calm, conditions, laid).
  DERIVED. THE GIVEN ROWS OF THIS SEAT. 2 by the template 'for every input the law returns true; each argument reads behind the call as it read before'; 0 by the template 'total and deterministic' (their statements: YbulkbjqyFmtTotals.lean).
  GIVEN WITH THE SEED: the statements are not yours to turn. If you find one false, say at which input.
  Laid BY PROGRAM, IN A SANDBOX (cutbox-rows.mjs): the forced cells as the released guide's own fill.sh prints them over the translation c3935934e2433135… (all of the seat's roots in one cut). By AI agents, Wed Nov 11 2026. No macro, syntax, notation, axiom, sorry.
-/
import Derived.Test.YbulkbjqyFmtChecked
import GoSem.Claim
import GoSem.ClaimJoined
import GoSem.ClaimMapViews
import Derived.JoinedTies
import Derived.KernelRfl
namespace Go.Proofs.YbulkbjqyFmt
/- THE CELL 'sum', in the pinned program and in every row, IS THE sha256 OF THE DUMP (.gsa) THAT YbulkbjqyFmtProg.lean LOADS. Nothing in Lean hashes anything: it is a label: what it is worth is what the hold of that sum in a sandbox is worth. -/
noncomputable def Ybaf.pinned : Pinned := { name := "ybulkbjqyfmt", sum := "c3935934e2433135a7d7d121a5340b0d145a4364ac5a6358375a5c7699a44fe3", checked := Ybaf.checked }
namespace Rows
def none {H : Type} : Left H := { results := [], args := [] }

/-- 'longhaul.LawS3027AOrder': WHATEVER THE INPUT: true; the input reads as it did. -/
def lawS3027AOrderSpec : ChangeSpec := { name := "lawS3027AOrder", fn := fun _ => fun
  | [d] => { results := [.lit (.bool true)], args := [d] }
  | _ => none }
def lawS3027AOrderRow : OpenClaim := { program := "ybulkbjqyfmt", sum := "c3935934e2433135a7d7d121a5340b0d145a4364ac5a6358375a5c7699a44fe3", func := "example.com/longhaul/longhaul.LawS3027AOrder", spec := "lawS3027AOrder", stops := ["fmt.Sprintf"], inPlace := ["fmt.Sprintf", "(*internal/sync.Mutex).Lock", "internal/race.Disable", "sync/atomic.CompareAndSwapInt32", "internal/race.Enable", "internal/race.Acquire", "(*internal/sync.Mutex).lockSlow", "internal/sync.runtime_canSpin", "internal/sync.runtime_doSpin", "internal/sync.throw", "internal/sync.runtime_nanotime", "internal/sync.runtime_SemacquireMutex", "sync/atomic.AddInt32", "(*internal/sync.Mutex).Unlock", "internal/race.ReleaseMerge", "(*internal/sync.Mutex).unlockSlow", "internal/sync.fatal", "internal/sync.runtime_Semrelease"], apart := false }
/-- NO THEOREM (fmt's text is open here; it may be false): for the released tool's asking of the row's closed facts alone. THE STATEMENT IS 'LawS3027AOrderToldSaid' (YbulkbjqyFmtCards.lean). -/
def LawS3027AOrderFormAsk : Prop := lawS3027AOrderRow.holds Ybaf.pinned (OpenSpec.ofChange lawS3027AOrderSpec)

/-- ITS FALSE NEIGHBOUR: 'it returns false'. Refute it at one input. -/
def lawS3027AOrderWrong : ChangeSpec := { name := "lawS3027AOrder", fn := fun _ => fun
  | [d] => { results := [.lit (.bool false)], args := [d] }
  | _ => none }
def LawS3027AOrderWrongFormAsk : Prop := lawS3027AOrderRow.holds Ybaf.pinned (OpenSpec.ofChange lawS3027AOrderWrong)

/-- 'longhaul.LawS3027AKeeps': WHATEVER THE INPUT: true; the input reads as it did. -/
def lawS3027AKeepsSpec : ChangeSpec := { name := "lawS3027AKeeps", fn := fun _ => fun
  | [d1, d2] => { results := [.lit (.bool true)], args := [d1, d2] }
  | _ => none }
def lawS3027AKeepsRow : OpenClaim := { program := "ybulkbjqyfmt", sum := "c3935934e2433135a7d7d121a5340b0d145a4364ac5a6358375a5c7699a44fe3", func := "example.com/longhaul/longhaul.LawS3027AKeeps", spec := "lawS3027AKeeps", stops := ["fmt.Sprintf"], inPlace := ["fmt.Sprintf", "(*internal/sync.Mutex).Lock", "internal/race.Disable", "sync/atomic.CompareAndSwapInt32", "internal/race.Enable", "internal/race.Acquire", "(*internal/sync.Mutex).lockSlow", "internal/sync.runtime_canSpin", "internal/sync.runtime_doSpin", "internal/sync.throw", "internal/sync.runtime_nanotime", "internal/sync.runtime_SemacquireMutex", "sync/atomic.AddInt32", "(*internal/sync.Mutex).Unlock", "internal/race.ReleaseMerge", "(*internal/sync.Mutex).unlockSlow", "internal/sync.fatal", "internal/sync.runtime_Semrelease"], apart := false }
/-- NO THEOREM (fmt's text is open here; it may be false): for the released tool's asking of the row's closed facts alone. THE STATEMENT IS 'LawS3027AKeepsToldSaid' (YbulkbjqyFmtCards.lean). -/
def LawS3027AKeepsFormAsk : Prop := lawS3027AKeepsRow.holds Ybaf.pinned (OpenSpec.ofChange lawS3027AKeepsSpec)

/-- ITS FALSE NEIGHBOUR: 'it returns false'. Refute it at one input. -/
def lawS3027AKeepsWrong : ChangeSpec := { name := "lawS3027AKeeps", fn := fun _ => fun
  | [d1, d2] => { results := [.lit (.bool false)], args := [d1, d2] }
  | _ => none }
def LawS3027AKeepsWrongFormAsk : Prop := lawS3027AKeepsRow.holds Ybaf.pinned (OpenSpec.ofChange lawS3027AKeepsWrong)

end Rows
end Go.Proofs.YbulkbjqyFmt
