import Derived.Test.YbulkbjneLaws
import Derived.ProofKit
import Derived.ShutString
import Derived.ChangeOld
namespace Go.Proofs.Ybulkbjne
open Go.ChangeShapes Go.WideShapes Go.ChangeAt Go.RowKit
open Go.ChangeMaps (open_string shut_string)

namespace LawS3020BHit
theorem own : ownKnob Yba.prog.godebug = none := by kernel_rfl
theorem laidOut : laidOutB Yba.prog = true := by kernel_rfl
theorem cells9 : Yba.prog.cellsOf 9 = 1 := by kernel_rfl

set_option maxRecDepth 100000 in
theorem lifted (os : Os) (started : os.Started) (H : Type) (enc : TypeId × Value → H) :
    ReturnsInHanded {} Yba.checked os 4 .any (Rows.lawS3020BHitSpec.pre6 enc Yba.prog Yba.f4 Rows.lawS3020BHitRow.domain false) (Rows.lawS3020BHitSpec.post enc Yba.prog Yba.f4 false true false false) := by
  refine returnsInHanded_of_change (C := Yba.checked) own started (by kernel_rfl) Yba.func4
    (ChangeSpec.witness6 (enc := enc) (C := Yba.checked) false ⟨#[], #[.slice none 0 0, .int .u16 0], []⟩ 8 (by kernel_rfl) (by kernel_rfl) (by kernel_rfl) (by kernel_rfl)) ?_
  intro W base args ds gs before hval0 hW hcnd _
  have hval : ∀ (j : Nat) t v, Yba.f4.params[j]? = some t → args[j]? = some v → Value.okWide Yba.prog W .any base t v := hval0
  have hW' := hW
  obtain ⟨p, q, hA0, hV, rfl, hfz, hnd⟩ := hW
  have hA : DataW.TrodAll enc Yba.prog W 0 (fun _ => true) true Yba.f4.params.toList args.toList ds p := hA0
  rw [Yba.params4] at hA hval
  obtain ⟨v0, v1, d0, d1, p0, p1, rfl, rfl, rfl, h0, h1⟩ := trodAll_two hA
  obtain ⟨rfl, rfl⟩ := trodVars_none hV
  obtain ⟨a0, len0, cap0, rfl⟩ := okWide_slice Yba.underlying22 (hval 0 22 v0 rfl rfl)
  have k0 := h0
  have lt0 : ∀ x ∈ p0, x.block < W.heap.size := by obtain ⟨m, hm⟩ := k0; exact DataW.trod_lt m _ _ _ hm
  obtain ⟨b, off, S, hm, hc⟩ : ∃ b off, ∃ S : Nat → ByteArray, len0 ≤ maxLen ∧ ∀ j, j < len0 → a0 = some ⟨b, off, none⟩ ∧ b < W.heap.size ∧ W.cell? ⟨b, off + j, none⟩ = some (.string (S j)) := by
    obtain ⟨fuel, hf⟩ := h0
    rcases open_strings Yba.underlying22 Yba.underlying9 cells9 hf with ⟨hcs, _⟩ | ⟨a, len', cap', ss, hcs, _, hl, hm, hz, hx, hcell, _⟩
    · simp [Value.cells] at hcs
      obtain ⟨rfl, rfl, rfl⟩ := hcs
      exact ⟨0, 0, fun _ => ByteArray.empty, Nat.zero_le _, fun j hj => by omega⟩
    · simp [Value.cells] at hcs
      obtain ⟨rfl, rfl, rfl⟩ := hcs
      simp only [if_true] at hz
      simp only [Prod.mk.injEq] at hx
      by_cases hl0 : len0 = 0
      · exact ⟨0, 0, fun _ => ByteArray.empty, by omega, fun j hj => by omega⟩
      · obtain ⟨b, off, spot⟩ := a
        have hspot : spot = none := by simpa [Addr.add] using World.cell?_spot (hcell 0 (by omega))
        subst hspot
        refine ⟨b, off, fun j => ss.getD j ByteArray.empty, by omega, fun j hj => ⟨rfl, ?_, by rw [← add_plain]; exact hcell j (by omega)⟩⟩
        refine lt0 (.cell b off) ?_
        rw [hx.2]
        exact MemPlace.mem_row.2 ⟨0, by omega, by simp⟩
  obtain ⟨sel, rfl, rfl, rfl, ws⟩ := open_int Yba.underlying29 (hval 1 29 v1 rfl rfl) h1
  have hb : 0 ≤ sel ∧ sel ≤ 65535 := by have hw := ws; simp [Lit.wf] at hw; exact hw
  clear hA0 hval0
  refine (hit_any a0 b off len0 cap0 S sel W hm hb.1 hb.2 hc).mono fun e W' ⟨he, bel⟩ => ?_
  subst he
  exact ⟨_, rfl, _, _, _, [], _, [], hW', trodAll_mk1 (shut_bool Yba.underlying4 _), trodAll_mk2 (Below.trod laidOut (by kernel_rfl) (of_decide_eq_true (by kernel_rfl)) k0 bel lt0) (shut_int Yba.underlying29 ws), rfl, bel.frame _, fun h => by cases h⟩
end LawS3020BHit

theorem lawS3020BHit_holds : Rows.LawS3020BHitSaid :=
  OpenClaim.holds_of_wide 4 Yba.f4 rfl rfl rfl rfl rfl rfl rfl ⟨rfl, rfl, rfl, rfl, rfl⟩ rfl rfl rfl rfl rfl (by kernel_rfl) Yba.func4 (by kernel_rfl)
    (of_decide_eq_true (by kernel_rfl)) (by unfold Func.isWrapper; first | (rw [if_pos (by decide +kernel)]; kernel_rfl) | (rw [if_neg (by decide +kernel)]; exact ⟨rfl, rfl⟩))
    (fun os started H enc _ => LawS3020BHit.lifted os started H enc)
end Go.Proofs.Ybulkbjne
