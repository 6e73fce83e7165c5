import Derived.Test.YbulkbjqyFmtOrder
import Derived.Test.YbulkbjqyFmtCards
import Derived.Carry
import Derived.ChangeOld
import Derived.ProofKit
import Derived.Stop.JoinedAt
import Derived.Stop.Texts
import Derived.Stop.JoinedTold
import Derived.SizedLaws
import Derived.SevenToldRow
namespace Go.Proofs.YbulkbjqyFmt
open Go.ChangeShapes Go.WideShapes Go.ChangeAt Go.RowKit Go.Kit
open Go.Extern.Stop Go.Stop Go.Extern

namespace Order
theorem own : ownKnob Ybaf.prog.godebug = none := by kernel_rfl
theorem laidOut : laidOutB Ybaf.pinned.checked.prog = true := by kernel_rfl
theorem cells5' : Ybaf.prog.cellsOf 5 = 1 := by kernel_rfl

theorem addr_of {w : World} {a : Addr} {i : Nat} {v v0 : Value} (h0 : w.cell? (a.add 0) = some v0) (h : w.cell? (a.add i) = some v) : some a = some ⟨a.block, a.off, none⟩ ∧ a.block < w.heap.size ∧ w.cell? ⟨a.block, a.off + i, none⟩ = some v := by
  have hs := World.cell?_spot h0
  have hl := World.block_lt_of_cell? w _ h0
  obtain ⟨b, o, sp⟩ := a
  cases sp with
  | none =>
    have e : ∀ j, (⟨b, o, none⟩ : Addr).add j = ⟨b, o + j, none⟩ := by
      intro j
      unfold Addr.add
      split
      · rename_i h; subst h; rfl
      · rfl
    rw [e] at h hl
    exact ⟨rfl, hl, h⟩
  | some z => simp [Addr.add] at hs

theorem wf_u8 {x : Int} (h : (Lit.int .u8 x).wf = true) : 0 ≤ x ∧ x ≤ 255 := by
  simp [Lit.wf] at h
  exact h

theorem open_ops {H : Type} {enc : TypeId × Value → H} {W : World} {v : Value} {d : DataW H} {p : List MemPlace} (h : DataW.Trod enc Ybaf.prog W 0 (fun _ => true) true 22 v d p) (hv : ∃ a l c, v = .slice a l c) :
    ∃ (na : Option Addr) (nb noff nl nc : Nat) (V : Nat → Int), v = .slice na nl nc ∧ nl ≤ maxLen ∧ CameU W na nb noff nl V := by
  obtain ⟨a0, l0, c0, rfl⟩ := hv
  obtain ⟨fuel, hf⟩ := h
  rcases open_ints Ybaf.underlying22 Ybaf.underlying5 cells5' hf with ⟨hcs, hx⟩ | ⟨a, len, cap, zs, hcs, _, hl, hm, hz, hx, hcell, hwz⟩
  · simp [Value.cells] at hcs
    obtain ⟨rfl, rfl, rfl⟩ := hcs
    exact ⟨none, 0, 0, 0, 0, fun _ => 0, rfl, Nat.zero_le _, fun i hi => by omega⟩
  · simp [Value.cells] at hcs
    obtain ⟨rfl, rfl, rfl⟩ := hcs
    simp only [if_true] at hz
    refine ⟨some a, a.block, a.off, l0, c0, fun i => zs.getD i 0, rfl, by omega, fun i hi => ?_⟩
    obtain ⟨e1, e2, e3⟩ := addr_of (hcell 0 (by omega)) (hcell i (by omega))
    have hi' : i < zs.length := by omega
    have hw := hwz (zs.getD i 0) (by rw [List.getD_eq_getElem?_getD, List.getElem?_eq_getElem hi']; exact List.getElem_mem hi')
    have hb := wf_u8 hw
    exact ⟨e1, e2, e3, hb.1, hb.2⟩

set_option maxRecDepth 100000 in
theorem lifted (os : Os) (started : os.Started) (H : Type) (enc : TypeId × Value → H) :
    ReturnsInTold none {} Ybaf.checked os 3 .any Input.okWide ((OpenSpec.ofChange Rows.lawS3027AOrderSpec).preRow enc Ybaf.prog Ybaf.f3 [] false []) (fun F => ((OpenSpec.ofChange Rows.lawS3027AOrderSpec).at F).post enc Ybaf.prog Ybaf.f3 false true false false) (aloneAtReturn Ybaf.prog) nothingAlways := by
  refine returnsInTold_of_row (C := Ybaf.checked) (s := OpenSpec.ofChange Rows.lawS3027AOrderSpec) (by kernel_rfl) own started (by kernel_rfl) Ybaf.func3
    (OpenSpec.witness_stopped (enc := enc) (C := Ybaf.checked) false ⟨#[], #[.slice none 0 0], []⟩ 8 (by kernel_rfl) (by kernel_rfl) (by kernel_rfl) (by kernel_rfl)) ?_
  intro F W base args ds gs before _ hF hval0 hW _ _ hsz _ _
  have hval : ∀ (j : Nat) t v, Ybaf.f3.params[j]? = some t → args[j]? = some v → Value.okWide Ybaf.prog W .any base t v := hval0
  have hW' := hW
  obtain ⟨p, q, hA0, hV, rfl, hfz, hnd⟩ := hW
  have hA : DataW.TrodAll enc Ybaf.prog W 0 (fun _ => true) true Ybaf.f3.params.toList args.toList ds p := hA0
  rw [Ybaf.params3] at hA hval
  obtain ⟨v0, d0, rfl, rfl, h0⟩ := trodAll_one hA
  obtain ⟨rfl, rfl⟩ := trodVars_none hV
  have lt0 : ∀ x ∈ p, x.block < W.heap.size := by obtain ⟨n, hn⟩ := h0; exact DataW.trod_lt n _ _ _ hn
  obtain ⟨na, nb, noff, nl, nc, V, rfl, hnl, hN⟩ := open_ops h0 (okWide_slice Ybaf.underlying22 (hval 0 22 v0 rfl rfl))
  clear hA0 hval0
  refine (order_any na nb noff nl nc V W hnl hN).mono fun e W' ⟨he, bel⟩ => ?_
  subst he
  exact ⟨_, rfl, _, _, _, [], p, [], hW', trodAll_mk1 (shut_bool Ybaf.underlying4 _),
    trodAll_mk1 (Below.trod laidOut (by kernel_rfl) (of_decide_eq_true (by kernel_rfl)) h0 bel lt0), rfl, bel.frame _, fun h => by cases h⟩

theorem stops : Ybaf.pinned.checked.prog.stops = ["fmt.Sprintf"] := by kernel_rfl
theorem stopKnobs : Ybaf.pinned.checked.prog.stopKnobs = [] := by kernel_rfl
theorem quiet (os : Os) : Stop.quiet Ybaf.pinned.checked.prog os := by
  intro k hk
  rw [stopKnobs] at hk
  cases hk
end Order

theorem order_holds : Rows.LawS3027AOrderToldSaid :=
  Claim7.holds_of_told_any 3 Ybaf.f3 "fmt.Sprintf" [] [] _ _ _ (by kernel_rfl) rfl rfl rfl Order.laidOut (by kernel_rfl) rfl ⟨rfl, rfl, rfl, rfl, rfl, rfl, rfl⟩ rfl rfl (by kernel_rfl) (by kernel_rfl) Ybaf.func3 (by kernel_rfl)
    (of_decide_eq_true (by kernel_rfl)) (of_decide_eq_true (by kernel_rfl)) Order.stops.symm rfl Order.stopKnobs.symm (by kernel_rfl)
    (by kernel_rfl) (by kernel_rfl) (by kernel_rfl) (by kernel_rfl) (by kernel_rfl) (by kernel_rfl) (by kernel_rfl) (by kernel_rfl) (by kernel_rfl) rfl (by kernel_rfl) rfl rfl
    rfl rfl
    rfl (by kernel_rfl) (by kernel_rfl) (by kernel_rfl) (by decide) (by kernel_rfl)
    (OpenClaim.moreEntering_of (by kernel_rfl) (by kernel_rfl) (by kernel_rfl) (by kernel_rfl) (by kernel_rfl) (by kernel_rfl) (by kernel_rfl) (by kernel_rfl) (by kernel_rfl) (by kernel_rfl))
    ⟨_, WideRow.started_initial, Order.quiet _⟩
    (fun os started _ H enc _ => Order.lifted os started H enc)
end Go.Proofs.YbulkbjqyFmt
