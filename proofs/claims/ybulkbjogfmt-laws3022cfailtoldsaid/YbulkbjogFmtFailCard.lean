import Derived.Test.YbulkbjogFmtFail
import Derived.Test.YbulkbjogFmtCards
import Derived.Test.YbulkbjogFmtTie
import Derived.ProofKit
import Derived.Stop.JoinedAt
import Derived.Stop.Texts
import Derived.Stop.JoinedTold
import Derived.SizedLaws
import Derived.SevenTiedAt
namespace Go.Proofs.YbulkbjogFmt
open Go.ChangeShapes Go.WideShapes Go.ChangeAt Go.RowKit Go.Kit
open Go.Extern.Stop Go.Stop Go.Extern

namespace Fail
theorem own : ownKnob Ybaf.prog.godebug = none := by kernel_rfl

/-- ONE START THAT FITS: the settled world with one block more, an errors.errorString, to which variable number 1 leads. -/
theorem start (os : Os) (H : Type) (enc : TypeId × Value → H) : ∃ w0 : World, w0.os = os ∧ (w0.forCall (fun _ _ => 0) ⟨#[], #[.int .u8 0, .int .u8 0], []⟩).variablesB Ybaf.checked.prog = true ∧
    ((w0.forCall (fun _ _ => 0) ⟨#[], #[.int .u8 0, .int .u8 0], []⟩).heap.toList.drop Ybaf.checked.prog.globals.size).take ((begin Ybaf.checked.prog (fun _ _ => 0) default).world.heap.size - Ybaf.checked.prog.globals.size) =
      (begin Ybaf.checked.prog (fun _ _ => 0) default).world.heap.toList.drop Ybaf.checked.prog.globals.size ∧
    Input.okWideB Ybaf.checked.prog (w0.forCall (fun _ _ => 0) ⟨#[], #[.int .u8 0, .int .u8 0], []⟩) 6 ⟨#[], #[.int .u8 0, .int .u8 0], []⟩ = true ∧
    (OpenSpec.ofChange Rows.lawS3022CFailSpec).preRow enc Ybaf.checked.prog Ybaf.f6 [] false Rows.lawS3022CFailRow.laid (w0.forCall (fun _ _ => 0) ⟨#[], #[.int .u8 0, .int .u8 0], []⟩).memory #[.int .u8 0, .int .u8 0] :=
  ⟨{ World.holding Ybaf.prog os ⟨#[.cells #[.string ⟨#[115, 104, 111, 114, 116, 32, 119, 114, 105, 116, 101]⟩] 75], #[], []⟩ with
      heap := (World.holding Ybaf.prog os ⟨#[.cells #[.string ⟨#[115, 104, 111, 114, 116, 32, 119, 114, 105, 116, 101]⟩] 75], #[], []⟩).heap.modify 1 fun
        | .cells _ t frozen => .cells #[.iface 73 (.pointer (some ⟨(World.holding Ybaf.prog default ⟨#[], #[], []⟩).heap.size, 0, none⟩))] t frozen
        | o => o },
    rfl, by kernel_rfl, by kernel_rfl, by kernel_rfl,
    OpenSpec.preRow_of_B rfl 8 (by kernel_rfl) (by kernel_rfl) (laidMet_of_run (ps := [.cell 1 0, .cell (World.holding Ybaf.prog default ⟨#[], #[], []⟩).heap.size 0]) 8 (by kernel_rfl) (by kernel_rfl) (by kernel_rfl))⟩

set_option maxRecDepth 100000 in
theorem lifted (os : Os) (started : os.Started) (H : Type) (enc : TypeId × Value → H) :
    ReturnsInTold none {} Ybaf.checked os 6 .any Input.okWide ((OpenSpec.ofChange Rows.lawS3022CFailSpec).preRow enc Ybaf.prog Ybaf.f6 [] false Rows.lawS3022CFailRow.laid) (fun F => ((OpenSpec.ofChange Rows.lawS3022CFailSpec).at F).post enc Ybaf.prog Ybaf.f6 false true false false) (aloneAtReturn Ybaf.prog) nothingAlways := by
  obtain ⟨w0, q1, q2, q3, q4, q5⟩ := start os H enc
  refine returnsInTold_of_row (C := Ybaf.checked) (s := OpenSpec.ofChange Rows.lawS3022CFailSpec) (by kernel_rfl) own started (by kernel_rfl) Ybaf.func6
    (OpenSpec.witness_stopped_at (enc := enc) (C := Ybaf.checked) false w0 #[.int .u8 0, .int .u8 0] q1 q2 q3 q4 q5) ?_
  intro F W base args ds gs before _ hF hval0 hW _ _ hsz _ _
  have hval : ∀ (j : Nat) t v, Ybaf.f6.params[j]? = some t → args[j]? = some v → Value.okWide Ybaf.prog W .any base t v := hval0
  have hW' := hW
  obtain ⟨p, q, hA0, hV, rfl, hfz, hnd⟩ := hW
  have hA : DataW.TrodAll enc Ybaf.prog W 0 (fun _ => true) true Ybaf.f6.params.toList args.toList ds p := hA0
  rw [Ybaf.params6] at hA hval
  obtain ⟨v0, v1, d0, d1, p0, p1, rfl, rfl, rfl, h0, h1⟩ := trodAll_two hA
  obtain ⟨rfl, rfl⟩ := trodVars_none hV
  obtain ⟨n, rfl, rfl, rfl, wn⟩ := open_int Ybaf.underlying5 (hval 0 5 v0 rfl rfl) h0
  obtain ⟨b, rfl, rfl, rfl, wb⟩ := open_int Ybaf.underlying5 (hval 1 5 v1 rfl rfl) h1
  have hb : 0 ≤ n ∧ n ≤ 255 := by have hw := wn; simp [Lit.wf] at hw; exact hw
  obtain ⟨k, rfl⟩ : ∃ k : Nat, n = k := ⟨n.toNat, by omega⟩
  clear hA0 hval0
  refine (cfail_any F.told k b W hF (by omega)).mono fun e W' ⟨he, bel⟩ => ?_
  subst he
  exact ⟨_, rfl, _, _, _, [], [], [], hW', trodAll_mk1 (shut_bool Ybaf.underlying4 _), trodAll_mk2 (shut_int Ybaf.underlying5 wn) (shut_int Ybaf.underlying5 wb), rfl, bel.frame _, fun h => by cases h⟩

theorem laidOut : laidOutB Ybaf.pinned.checked.prog = true := by kernel_rfl
theorem stops : Ybaf.pinned.checked.prog.stops = ["fmt.Sprintf", "fmt.errorf"] := by kernel_rfl
theorem stopKnobs : Ybaf.pinned.checked.prog.stopKnobs = [] := by kernel_rfl
theorem quiet (os : Os) : Stop.quiet Ybaf.pinned.checked.prog os := by
  intro k hk
  rw [stopKnobs] at hk
  cases hk
end Fail

theorem cfail_holds : Rows.LawS3022CFailToldSaid :=
  Claim7.holds_of_told_tied_any_at .later 6 Ybaf.f6 "fmt.Sprintf" ["fmt.errorf"] [] _ _ _ _ _ (by kernel_rfl) rfl rfl rfl Fail.laidOut (by kernel_rfl) rfl ⟨rfl, rfl, rfl, rfl, rfl, rfl, rfl⟩ rfl rfl (by kernel_rfl) (by kernel_rfl) Ybaf.func6 (by kernel_rfl)
    (of_decide_eq_true (by kernel_rfl)) (of_decide_eq_true (by kernel_rfl)) Fail.stops.symm rfl Fail.stopKnobs.symm (by kernel_rfl)
    (by kernel_rfl) (by kernel_rfl) (by kernel_rfl) (by kernel_rfl) (by kernel_rfl) (by kernel_rfl) (by kernel_rfl) (by kernel_rfl) (by kernel_rfl) rfl (by kernel_rfl) rfl rfl
    rfl rfl
    rfl (by kernel_rfl) (by kernel_rfl) (by kernel_rfl) (by decide) (by kernel_rfl) lawS3022CFail_row_tie
    (OpenClaim.moreEntering_of (by kernel_rfl) (by kernel_rfl) (by kernel_rfl) (by kernel_rfl) (by kernel_rfl) (by kernel_rfl) (by kernel_rfl) (by kernel_rfl) (by kernel_rfl) (by kernel_rfl))
    ⟨_, WideRow.started_initial, Fail.quiet _⟩
    (fun os started _ H enc _ => Fail.lifted os started H enc)
end Go.Proofs.YbulkbjogFmt
