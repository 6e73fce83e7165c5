import Derived.Test.YbulkbjrmDoorWalk
import Derived.Test.YbulkbjrmDoorCards
import Derived.Test.YbulkbjrmDoorTie
import Derived.ChangeSame
import Derived.ChangeVars
import Derived.OpenVars
import Derived.OpenShut
import Derived.JoinedOf
import Derived.RowKit
import Derived.RowKitTokens
import Derived.LaidLaws
import Derived.LaidHandle
import Derived.Stop.Joined
import Derived.SevenTiedAt
namespace Go.Proofs.YbulkbjrmDoor
open Go.ChangeShapes Go.WideShapes Go.RowKit

namespace Table
/-- The listed variable's name. -/
abbrev nmS : String := Rows.lawS3028CTableSpec.vars.headD Rows.lawS3028CTableSpec.name
theorem own : ownKnob Ybad.prog.godebug = none := by kernel_rfl
theorem laidOut : laidOutB Ybad.prog = true := by kernel_rfl
theorem spelling : Ybad.prog.globalNamed nmS = some 0 := by kernel_rfl
theorem spellingType : (Ybad.prog.globals[0]?).map (·.type) = some 28 := by kernel_rfl
theorem cells9' : Ybad.prog.cellsOf 9 = 1 := by kernel_rfl
theorem cells28' : Ybad.prog.cellsOf 28 = 36 := by kernel_rfl
theorem rowed : varsRowed Ybad.prog [nmS] = true := by kernel_rfl

theorem laid_eq {H : Type} : (Rows.laid_example_com_stackloom_stackloom_lexer_spelling : DataW H) = .agg (spellL.map fun s => .lit (.string s)) := rfl

/-- What the condition gives the walk: the table's cells. -/
theorem cells_of_laid {W : World} (h : laidMet Ybad.prog [(nmS, Rows.laid_example_com_stackloom_stackloom_lexer_spelling)] W) :
    ∀ i, i < 36 → W.cell? ⟨0, i, none⟩ = some (.string (spellS i)) := by
  obtain ⟨ps, ⟨g, t, cs, fuel, p, q, hg, ht, hvar, hd, _, _⟩, _⟩ := h
  obtain rfl := Option.some.inj (spelling.symm.trans hg)
  obtain rfl := Option.some.inj (spellingType.symm.trans ht)
  rw [laid_eq] at hd
  obtain ⟨xs, m, rfl, hx, hl, hn, hel⟩ := DataW.trod_array Ybad.underlying28 hd
  simp only [Prod.mk.injEq, DataW.agg.injEq] at hx
  intro i hi
  have hc : W.cell? ⟨0, i, none⟩ = cs[i]? := World.var?_cell spelling hvar i
  have he := hel i hi
  have hxi : i < xs.length := by omega
  rw [List.getElem?_eq_getElem hxi, cells9', Nat.mul_one] at he
  obtain ⟨s, hs1, hs2, _⟩ := DataW.trod_string Ybad.underlying9 he
  have hsl : i < spellL.length := hi
  have h1 : (xs.map (·.1))[i]? = (spellL.map fun s => (DataW.lit (.string s) : DataW Unit))[i]? := by rw [hx.1]
  rw [List.getElem?_map, List.getElem?_map, List.getElem?_eq_getElem hxi, List.getElem?_eq_getElem hsl, hs2] at h1
  simp at h1
  have hss : s = spellS i := by
    unfold spellS
    rw [List.getElem?_eq_getElem hsl]
    simp only [Option.getD_some]
    rw [← h1]
  rw [hc, ← hss]
  have h2 : (cs.toList.drop i)[0]? = some (.string s) := by
    have : ((cs.toList.drop i).take 1)[0]? = some (.string s) := by rw [hs1]; rfl
    simpa [List.getElem?_take] using this
  simpa using h2

theorem witness (os : Os) (H : Type) (enc : TypeId × Value → H) : ∃ (w : World) (tape : Tape) (i : Input), w.os = os ∧ (w.forCall tape i).Shaped Ybad.checked.prog ∧ i.vars = [] ∧ Input.okWide Ybad.checked.prog (w.forCall tape i) .any w.heap.size 3 i ∧
      ((Rows.lawS3028CTableSpec.pre enc Ybad.checked.prog Ybad.f3 [] false (w.forCall tape i).memory i.args ∧ laidMetH Ybad.checked.prog Rows.lawS3028CTableRow.laid (w.forCall tape i).memory) ∧ sizedMet enc Ybad.checked.prog Ybad.f3 (OpenSpec.ofChange Rows.lawS3028CTableSpec) false (w.forCall tape i).memory i.args) ∧ ({} : Assume).holds Ybad.checked.prog (lone (Frame.enter Ybad.checked.prog 3 i.args .normal) [] (w.forCall tape i)) :=
  ChangeSpec.witness_at (enc := enc) (C := Ybad.checked) (os := os) (X := fun w _ => laidMetH Ybad.checked.prog Rows.lawS3028CTableRow.laid w) false
    { World.holding Ybad.prog os ⟨#[], #[], []⟩ with heap := (World.holding Ybad.prog os ⟨#[], #[], []⟩).heap.modify 0 fun
      | .cells _ t frozen => .cells (spellL.map fun s => Value.string ⟨s.toArray⟩).toArray t frozen
      | o => o } #[.int .u64 0] 8 rfl (by kernel_rfl) (by kernel_rfl) (by kernel_rfl) (by kernel_rfl) (by kernel_rfl)
    (laidMet_of_run (ps := MemPlace.row ⟨0, 0, none⟩ 36) 8 (by kernel_rfl) (by kernel_rfl) (by kernel_rfl))

set_option maxRecDepth 100000 in
theorem lifted (os : Os) (started : os.Started) (H : Type) (enc : TypeId × Value → H) :
    ReturnsInHanded {} Ybad.checked os 3 .any (fun w args => (Rows.lawS3028CTableSpec.pre enc Ybad.prog Ybad.f3 [] false w args ∧ laidMetH Ybad.prog Rows.lawS3028CTableRow.laid w) ∧ sizedMet enc Ybad.prog Ybad.f3 (OpenSpec.ofChange Rows.lawS3028CTableSpec) false w args)
      (Rows.lawS3028CTableSpec.post enc Ybad.prog Ybad.f3 false true false false) := by
  refine returnsInHanded_of_change_and (C := Ybad.checked) (X := fun w _ => laidMetH Ybad.prog Rows.lawS3028CTableRow.laid w) (fun _ _ _ hh h => h.of_heap hh) own started (by kernel_rfl) Ybad.func3 (witness os H enc) ?_
  intro W base args ds gs before hval0 hW _ _ hL _
  have hval : ∀ (j : Nat) t v, Ybad.f3.params[j]? = some t → args[j]? = some v → Value.okWide Ybad.prog W .any base t v := hval0
  have hW' := hW
  obtain ⟨p, q, hA0, hV0, rfl, hfz, hnd⟩ := hW
  have hA : DataW.TrodAll enc Ybad.prog W 0 (fun _ => true) true Ybad.f3.params.toList args.toList ds p := hA0
  have hV : DataW.TrodVars enc Ybad.prog W (fun _ => true) [nmS] gs q := hV0
  rw [Ybad.params3] at hA hval
  obtain ⟨v0, d0, rfl, rfl, h0⟩ := trodAll_one hA
  obtain ⟨x, rfl, rfl, rfl, hwx⟩ := open_int Ybad.underlying22 (hval 0 22 v0 rfl rfl) h0
  have hb : 0 ≤ x ∧ x ≤ 18446744073709551615 := by have hw := hwx; simp [Lit.wf] at hw; exact hw
  have hC := cells_of_laid (W := W) hL
  obtain ⟨g, t, cs, fuel, d, p', rfl, _⟩ := trodVars_one hV
  clear hA0 hV0 hval0
  refine (table_any x hb.1 hb.2 W hC).mono fun e W' ⟨he, bel⟩ => ?_
  subst he
  exact ⟨_, rfl, _, _, _, [], [], q, hW', trodAll_mk1 (shut_bool Ybad.underlying4 _), trodAll_mk1 (shut_int Ybad.underlying22 hwx), Below.trodVars laidOut bel rowed hV, bel.frame _, fun h => by cases h⟩
end Table

theorem table_row_holds : Rows.LawS3028CTableSaid :=
  OpenClaim.holds_of_wide 3 Ybad.f3 rfl rfl rfl rfl rfl rfl rfl ⟨rfl, rfl, rfl, rfl, rfl⟩ rfl rfl rfl rfl rfl (by kernel_rfl) Ybad.func3 (by kernel_rfl)
    (of_decide_eq_true (by kernel_rfl)) (by unfold Func.isWrapper; rw [if_neg (of_decide_eq_false (by kernel_rfl))]; exact ⟨rfl, rfl⟩)
    (fun os started H enc _ => Table.lifted os started H enc)

theorem table_holds : Rows.LawS3028CTableCardSaid :=
  Claim7.holds_tied_plain_at .later [] [.data] true (true, "5f4ff064c1e0886ca753424ca1e168d9f393af3c59043bb6b65dbf5b3c51db08") false
    table_row_holds (fun _ h => by cases h) (by kernel_rfl) (fun _ h => by cases h) lawS3028CTable_row_tie rfl ⟨rfl, rfl⟩ (by kernel_rfl) rfl
    (fun f fn hf hfn => by
      obtain rfl : f = 3 := Option.some.inj ((show Ybad.prog.funcNamed Rows.lawS3028CTableRow.func = some 3 by kernel_rfl).symm.trans hf) |>.symm
      obtain rfl : fn = Ybad.f3 := (Option.some.inj (Ybad.func3.symm.trans hfn)).symm
      exact ⟨by kernel_rfl, fun j t ht => by
        rw [Ybad.params3] at ht
        have h3 : t = 22 := by
          rcases j with _ | j
          · simpa using ht.symm
          · simp at ht
        subst h3
        exact (show Ybad.prog.wantsStandIn 22 = false by kernel_rfl)⟩)
    (by kernel_rfl)
end Go.Proofs.YbulkbjrmDoor
