import Derived.Test.YbulkbjogFmtStream
import Derived.Test.YbulkbjogFmtCards
import Derived.Test.YbulkbjogFmtTie
import Derived.Carry
import Derived.ChangeOld
import Derived.Deep.Matrix
import Derived.ProofKit
import Derived.Stop.JoinedAt
import Derived.Stop.Texts
import Derived.Stop.JoinedTold
import Derived.SizedLaws
import Derived.SevenTiedAt
namespace Go.Proofs.YbulkbjogFmt
open Go.ChangeShapes Go.WideShapes Go.ChangeAt Go.RowKit Go.Kit
open Go.Extern.Stop Go.Stop Go.Extern

namespace Stream
theorem own : ownKnob Ybaf.prog.godebug = none := by kernel_rfl
theorem laidOut : laidOutB Ybaf.pinned.checked.prog = true := by kernel_rfl

/-- ONE START THAT FITS: the settled world with one block more, an errors.errorString, to which variable number 1 leads. -/
theorem start (os : Os) (H : Type) (enc : TypeId × Value → H) : ∃ w0 : World, w0.os = os ∧ (w0.forCall (fun _ _ => 0) ⟨#[], #[.int .u32 0, .slice none 0 0, .slice none 0 0], []⟩).variablesB Ybaf.checked.prog = true ∧
    ((w0.forCall (fun _ _ => 0) ⟨#[], #[.int .u32 0, .slice none 0 0, .slice none 0 0], []⟩).heap.toList.drop Ybaf.checked.prog.globals.size).take ((begin Ybaf.checked.prog (fun _ _ => 0) default).world.heap.size - Ybaf.checked.prog.globals.size) =
      (begin Ybaf.checked.prog (fun _ _ => 0) default).world.heap.toList.drop Ybaf.checked.prog.globals.size ∧
    Input.okWideB Ybaf.checked.prog (w0.forCall (fun _ _ => 0) ⟨#[], #[.int .u32 0, .slice none 0 0, .slice none 0 0], []⟩) 5 ⟨#[], #[.int .u32 0, .slice none 0 0, .slice none 0 0], []⟩ = true ∧
    (OpenSpec.ofChange Rows.lawS3022CStreamSpec).preRow enc Ybaf.checked.prog Ybaf.f5 [] false Rows.lawS3022CStreamRow.laid (w0.forCall (fun _ _ => 0) ⟨#[], #[.int .u32 0, .slice none 0 0, .slice none 0 0], []⟩).memory #[.int .u32 0, .slice none 0 0, .slice none 0 0] :=
  ⟨{ World.holding Ybaf.prog os ⟨#[.cells #[.string ⟨#[115, 104, 111, 114, 116, 32, 119, 114, 105, 116, 101]⟩] 75], #[], []⟩ with
      heap := (World.holding Ybaf.prog os ⟨#[.cells #[.string ⟨#[115, 104, 111, 114, 116, 32, 119, 114, 105, 116, 101]⟩] 75], #[], []⟩).heap.modify 1 fun
        | .cells _ t frozen => .cells #[.iface 73 (.pointer (some ⟨(World.holding Ybaf.prog default ⟨#[], #[], []⟩).heap.size, 0, none⟩))] t frozen
        | o => o },
    rfl, by kernel_rfl, by kernel_rfl, by kernel_rfl,
    OpenSpec.preRow_of_B rfl 8 (by kernel_rfl) (by kernel_rfl) (laidMet_of_run (ps := [.cell 1 0, .cell (World.holding Ybaf.prog default ⟨#[], #[], []⟩).heap.size 0]) 8 (by kernel_rfl) (by kernel_rfl) (by kernel_rfl))⟩

theorem addr_of {w : World} {a : Addr} {i : Nat} {v v0 : Value} (h0 : w.cell? (a.add 0) = some v0) (h : w.cell? (a.add i) = some v) : some a = some ⟨a.block, a.off, none⟩ ∧ a.block < w.heap.size ∧ w.cell? ⟨a.block, a.off + i, none⟩ = some v := by
  have hs := World.cell?_spot h0
  have hl := World.block_lt_of_cell? w _ h0
  obtain ⟨b, o, sp⟩ := a
  cases sp with
  | none =>
    have e : ∀ j, (⟨b, o, none⟩ : Addr).add j = ⟨b, o + j, none⟩ := by
      intro j
      unfold Addr.add
      split
      · rename_i h; subst h; rfl
      · rfl
    rw [e] at h hl
    exact ⟨rfl, hl, h⟩
  | some z => simp [Addr.add] at hs

theorem addr_lt {w : World} {a : Addr} {v : Value} (h : w.cell? (a.add 0) = some v) : a.block < w.heap.size := (addr_of h h).2.1

theorem cells2' : Ybaf.prog.cellsOf 2 = 1 := by kernel_rfl
theorem cells22' : Ybaf.prog.cellsOf 22 = 1 := by kernel_rfl
theorem cells5' : Ybaf.prog.cellsOf 5 = 1 := by kernel_rfl

theorem open_ds {H : Type} {enc : TypeId × Value → H} {W : World} {v : Value} {d : DataW H} {p : List MemPlace} (h : DataW.Trod enc Ybaf.prog W 0 (fun _ => true) true 28 v d p) (hv : ∃ a l c, v = .slice a l c) :
    ∃ (da : Option Addr) (db doff dl dc : Nat) (D : Nat → Int), v = .slice da dl dc ∧ dl ≤ maxLen ∧ ∀ i, i < dl → da = some ⟨db, doff, none⟩ ∧ db < W.heap.size ∧ W.cell? ⟨db, doff + i, none⟩ = some (.int .i64 (D i)) := by
  obtain ⟨a0, l0, c0, rfl⟩ := hv
  obtain ⟨fuel, hf⟩ := h
  rcases open_ints Ybaf.underlying28 Ybaf.underlying2 cells2' hf with ⟨hcs, hx⟩ | ⟨a, len, cap, zs, hcs, _, hl, hm, hz, hx, hcell, hwz⟩
  · simp [Value.cells] at hcs
    obtain ⟨rfl, rfl, rfl⟩ := hcs
    exact ⟨none, 0, 0, 0, 0, fun _ => 0, rfl, Nat.zero_le _, fun i hi => by omega⟩
  · simp [Value.cells] at hcs
    obtain ⟨rfl, rfl, rfl⟩ := hcs
    simp only [if_true] at hz
    refine ⟨some a, a.block, a.off, l0, c0, fun i => zs.getD i 0, rfl, by omega, fun i hi => addr_of (hcell 0 (by omega)) (hcell i (by omega))⟩

theorem open_ps {H : Type} {enc : TypeId × Value → H} {W : World} {v : Value} {d : DataW H} {p : List MemPlace} (h : DataW.Trod enc Ybaf.prog W 0 (fun _ => true) true 29 v d p) (hv : ∃ a l c, v = .slice a l c) :
    ∃ (pa : Option Addr) (pb poff pl pc : Nat) (A : Nat → Option Addr) (L C : Nat → Nat) (B : Nat → List Int), v = .slice pa pl pc ∧ pl ≤ maxLen ∧ (∀ i, i < pl → L i ≤ maxLen) ∧
      ∀ i, i < pl → pa = some ⟨pb, poff, none⟩ ∧ pb < W.heap.size ∧ W.cell? ⟨pb, poff + i, none⟩ = some (.slice (A i) (L i) (C i)) ∧ Src W (A i) (L i) (C i) (cb (B i)) ∧ (0 < L i → ∀ ad, A i = some ad → ad.block < W.heap.size) := by
  obtain ⟨a0, l0, c0, rfl⟩ := hv
  obtain ⟨fuel, hf⟩ := h
  rcases Go.Deep.open_int_rows Ybaf.underlying29 Ybaf.underlying22 Ybaf.underlying5 cells22' cells5' hf with ⟨hcs, hx⟩ | ⟨a, len, cap, A, L, C, Z, hcs, _, hl, hm, hx, hrow⟩
  · simp [Value.cells] at hcs
    obtain ⟨rfl, rfl, rfl⟩ := hcs
    exact ⟨none, 0, 0, 0, 0, fun _ => none, fun _ => 0, fun _ => 0, fun _ => [], rfl, Nat.zero_le _, fun i hi => by omega, fun i hi => by omega⟩
  · simp [Value.cells] at hcs
    obtain ⟨rfl, rfl, rfl⟩ := hcs
    refine ⟨some a, a.block, a.off, l0, c0, A, L, C, fun i => (Z i).take (L i), rfl, by omega, fun i hi => ?_, fun i hi => ?_⟩
    · obtain ⟨_, h1, h2, _⟩ := hrow i (by omega); omega
    · obtain ⟨h0, h1, h2, h3, h4, h5, h6⟩ := hrow i (by omega)
      obtain ⟨e1, e2, e3⟩ := addr_of (hrow 0 (by omega)).1 h0
      refine ⟨e1, e2, e3, ?_, fun h7 ad had => addr_lt ((h6 ad had).2 0 (by omega))⟩
      cases hA : A i with
      | none =>
        have hC := h5 hA
        have hL : L i = 0 := by omega
        refine .inl ⟨rfl, hL, hC, ?_⟩
        simp [hL, cb]
      | some ad =>
        refine .inr ⟨ad, rfl, ?_, fun j u hu => ?_, cb_one _⟩
        · rw [cb_length, List.length_take]; omega
        · have hj : j < ((Z i).take (L i)).length := by
            have := (List.getElem?_eq_some_iff.1 hu).1
            rwa [cb_length] at this
          have hj' : j < L i := by rw [List.length_take] at hj; omega
          have he := (h6 ad hA).2 j (by omega)
          have hu' := cb_at _ j hj
          rw [hu'] at hu
          cases hu
          rw [he]
          congr 2
          rw [List.getD_eq_getElem?_getD, List.getD_eq_getElem?_getD, List.getElem?_take, if_pos hj']

set_option maxRecDepth 100000 in
theorem lifted (os : Os) (started : os.Started) (H : Type) (enc : TypeId × Value → H) :
    ReturnsInTold none {} Ybaf.checked os 5 .any Input.okWide ((OpenSpec.ofChange Rows.lawS3022CStreamSpec).preRow enc Ybaf.prog Ybaf.f5 [] false Rows.lawS3022CStreamRow.laid) (fun F => ((OpenSpec.ofChange Rows.lawS3022CStreamSpec).at F).post enc Ybaf.prog Ybaf.f5 false true false false) (aloneAtReturn Ybaf.prog) nothingAlways := by
  obtain ⟨w0, q1, q2, q3, q4, q5⟩ := start os H enc
  refine returnsInTold_of_row (C := Ybaf.checked) (s := OpenSpec.ofChange Rows.lawS3022CStreamSpec) (by kernel_rfl) own started (by kernel_rfl) Ybaf.func5
    (OpenSpec.witness_stopped_at (enc := enc) (C := Ybaf.checked) false w0 #[.int .u32 0, .slice none 0 0, .slice none 0 0] q1 q2 q3 q4 q5) ?_
  intro F W base args ds gs before _ hF hval0 hW _ _ hsz _ _
  have hval : ∀ (j : Nat) t v, Ybaf.f5.params[j]? = some t → args[j]? = some v → Value.okWide Ybaf.prog W .any base t v := hval0
  have hW' := hW
  obtain ⟨p, q, hA0, hV, rfl, hfz, hnd⟩ := hW
  have hA : DataW.TrodAll enc Ybaf.prog W 0 (fun _ => true) true Ybaf.f5.params.toList args.toList ds p := hA0
  rw [Ybaf.params5] at hA hval
  obtain ⟨v0, v1, v2, d0, d1, d2, p0, p1, p2, rfl, rfl, rfl, h0, h1, h2⟩ := trodAll_three hA
  obtain ⟨rfl, rfl⟩ := trodVars_none hV
  have lt1 : ∀ x ∈ p1, x.block < W.heap.size := by obtain ⟨n, hn⟩ := h1; exact DataW.trod_lt n _ _ _ hn
  have lt2 : ∀ x ∈ p2, x.block < W.heap.size := by obtain ⟨n, hn⟩ := h2; exact DataW.trod_lt n _ _ _ hn
  obtain ⟨n, rfl, rfl, rfl, wn⟩ := open_int Ybaf.underlying27 (hval 0 27 v0 rfl rfl) h0
  have hb : 0 ≤ n ∧ n ≤ 4294967295 := by have hw := wn; simp [Lit.wf] at hw; exact hw
  obtain ⟨da, db, doff, dl, dc, D, rfl, hdl, hD⟩ := open_ds h1 (okWide_slice Ybaf.underlying28 (hval 1 28 v1 rfl rfl))
  obtain ⟨pa, pb, poff, pl, pc, A, L, C, B, rfl, hpl, hL, hP⟩ := open_ps h2 (okWide_slice Ybaf.underlying29 (hval 2 29 v2 rfl rfl))
  clear hA0 hval0
  refine (cstream_any n da db doff dl dc D pa pb poff pl pc A L C B W hb.1 (by omega) hdl hpl hL ⟨hD, hP⟩).mono fun e W' ⟨he, bel⟩ => ?_
  subst he
  exact ⟨_, rfl, _, _, _, [], [] ++ (p1 ++ p2), [], hW', trodAll_mk1 (shut_bool Ybaf.underlying4 _),
    trodAll_mk3 (shut_int Ybaf.underlying27 wn) (Below.trod laidOut (by kernel_rfl) (of_decide_eq_true (by kernel_rfl)) h1 bel lt1) (Below.trod laidOut (by kernel_rfl) (of_decide_eq_true (by kernel_rfl)) h2 bel lt2), rfl, bel.frame _, fun h => by cases h⟩

theorem stops : Ybaf.pinned.checked.prog.stops = ["fmt.Sprintf", "fmt.errorf"] := by kernel_rfl
theorem stopKnobs : Ybaf.pinned.checked.prog.stopKnobs = [] := by kernel_rfl
theorem quiet (os : Os) : Stop.quiet Ybaf.pinned.checked.prog os := by
  intro k hk
  rw [stopKnobs] at hk
  cases hk
end Stream

theorem cstream_holds : Rows.LawS3022CStreamToldSaid :=
  Claim7.holds_of_told_tied_any_at .later 5 Ybaf.f5 "fmt.Sprintf" ["fmt.errorf"] [] _ _ _ _ _ (by kernel_rfl) rfl rfl rfl Stream.laidOut (by kernel_rfl) rfl ⟨rfl, rfl, rfl, rfl, rfl, rfl, rfl⟩ rfl rfl (by kernel_rfl) (by kernel_rfl) Ybaf.func5 (by kernel_rfl)
    (of_decide_eq_true (by kernel_rfl)) (of_decide_eq_true (by kernel_rfl)) Stream.stops.symm rfl Stream.stopKnobs.symm (by kernel_rfl)
    (by kernel_rfl) (by kernel_rfl) (by kernel_rfl) (by kernel_rfl) (by kernel_rfl) (by kernel_rfl) (by kernel_rfl) (by kernel_rfl) (by kernel_rfl) rfl (by kernel_rfl) rfl rfl
    rfl rfl
    rfl (by kernel_rfl) (by kernel_rfl) (by kernel_rfl) (by decide) (by kernel_rfl) lawS3022CStream_row_tie
    (OpenClaim.moreEntering_of (by kernel_rfl) (by kernel_rfl) (by kernel_rfl) (by kernel_rfl) (by kernel_rfl) (by kernel_rfl) (by kernel_rfl) (by kernel_rfl) (by kernel_rfl) (by kernel_rfl))
    ⟨_, WideRow.started_initial, Stream.quiet _⟩
    (fun os started _ H enc _ => Stream.lifted os started H enc)
end Go.Proofs.YbulkbjogFmt
