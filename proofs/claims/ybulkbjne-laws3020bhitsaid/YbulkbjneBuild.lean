import Derived.Test.YbulkbjneRows
import Derived.WalkKit
import Derived.WalkSpells
import Derived.WalkLawsBesides
namespace Go.Proofs.Ybulkbjne
open Go.RowKit
theorem Yba.info35 : (Yba.prog.info? 35).map (fun i => (i.zero, i.size, i.bytes)) = some (some (.agg #[.string ⟨#[]⟩, .string ⟨#[]⟩, .pointer none, .map none, .map none]), 5, 56) := by kernel_rfl

/-- Block g is a row of n metrics; the first k bear the names S. -/
structure Row (w : World) (g n k : Nat) (S : Nat → ByteArray) : Prop where
  lt : g < w.heap.size
  there : ∀ j, j < n → ∃ v, w.cell? ⟨g, j * 5, none⟩ = some v
  free : ∀ j, w.frozen? ⟨g, j, none⟩ = false
  name : ∀ j, j < k → w.cell? ⟨g, j * 5, none⟩ = some (.string (S j))

theorem Row.step {w : World} {g n k : Nat} {S : Nat → ByteArray} (h : Row w g n k S) (hk : k < n) : Row (w.setCell ⟨g, k * 5, none⟩ (.string (S k))) g n (k + 1) S := by
  obtain ⟨v, hv⟩ := h.there k hk
  have hs := World.cell?_setCell_same w ⟨g, k * 5, none⟩ (.string (S k)) hv
  have ho : ∀ j, j ≠ k → (w.setCell ⟨g, k * 5, none⟩ (.string (S k))).cell? ⟨g, j * 5, none⟩ = w.cell? ⟨g, j * 5, none⟩ := fun j hj =>
    World.cell?_setCell_other w ⟨g, k * 5, none⟩ ⟨g, j * 5, none⟩ _ (by simp)
  refine ⟨by simpa [World.setCell] using h.lt, fun j hj => ?_, fun j => ?_, fun j hj => ?_⟩
  · by_cases e : j = k
    · subst e; exact ⟨_, hs⟩
    · rw [ho j e]; exact h.there j hj
  · simpa using h.free j
  · by_cases e : j = k
    · subst e; exact hs
    · rw [ho j e]; exact h.name j (by omega)

theorem Row.made {w : World} {base g n : Nat} {xs : List Value} {S : Nat → ByteArray} (h : w.ownsRow base 35 5 (.slice (some ⟨g, 0, none⟩) n n) n xs) : Row w g n 0 S := by
  have hg : g < w.heap.size := by
    obtain ⟨_, h2⟩ := h
    rcases h2 with ⟨h2, _⟩ | ⟨g', cap, cur, hv, _, hh, _⟩
    · cases h2
    · cases hv
      exact (Array.getElem?_eq_some_iff.1 hh).1
  refine ⟨hg, fun j hj => ?_, fun j => h.frozenAt j, fun j hj => by omega⟩
  have := h.cellAt (j * 5) (by omega)
  rw [this, List.getElem?_eq_getElem (by have := h.1; omega)]
  exact ⟨_, rfl⟩

set_option maxHeartbeats 400000 in
theorem build_any (a : Option Addr) (b off len cap : Nat) (S : Nat → ByteArray) (w : World) (hlen : len ≤ 1024)
    (hc : ∀ j, j < len → a = some ⟨b, off, none⟩ ∧ b < w.heap.size ∧ w.cell? ⟨b, off + j, none⟩ = some (.string (S j))) :
    Calls Yba.prog 5 #[.slice a len cap] w fun e w' => ∃ c g, e = .returned (.pointer (some ⟨c, 0, none⟩)) ∧ w'.cell? ⟨c, 2, none⟩ = some (.slice (some ⟨g, 0, none⟩) len len) ∧ Row w' g len len S ∧ Below w.heap.size w w' := by
  obtain ⟨i0, hi, hz0, hz1, hz2⟩ := info_parts Yba.info35
  go_enter Yba.func5, Yba.ntmps5
  go_wp2_with (first | (at_make; refine wpList_make_full _ rfl _ _ 37 rfl w.heap.size 35 i0 _ 5 Yba.underlying37 hi hz0 hz1 .i64 .i64 _ _ len rfl rfl rfl rfl (by rw [hz2]; omega) (by unfold maxLen; omega) (Nat.le_refl _) ?_; intro w1 hown1 hgrow1))
  have hrow := Row.made (S := S) hown1
  have hnx := (Below.refl w.heap.size w).grown hgrow1 (Nat.le_refl _) (fun k h => by cases h)
  clear hown1 hgrow1
  go_loopw [10] (fun i wr => ∃ k : Nat, k ≤ len ∧ i = .int .i64 k ∧ Row wr w.heap.size len k S ∧ Below w.heap.size w wr) (fun i _ => len - (intOf i).toNat)
  case atStart => exact ⟨0, Nat.zero_le _, rfl, hrow, hnx⟩
  case round =>
    obtain ⟨k, hk, rfl, hr, hb⟩ := hrel
    clear hrow hnx
    by_cases hlt : k < len
    · obtain ⟨rfl, hbw, hcell0⟩ := hc k hlt
      have hcell : wr.cell? ⟨b, off + k, none⟩ = some (.string (S k)) := (hb.cell (by exact hbw)).trans hcell0
      obtain ⟨v, hv⟩ := hr.there k hlt
      have hz := hr.free (k * 5)
      go_wp2
      go_roundw
      case rel => exact ⟨k + 1, by omega, by go_num, hr.step hlt, hb.setCell (Nat.le_refl _) _⟩
      case measure => simp [intOf]; omega
    · obtain rfl : k = len := by omega
      have hg := hr.lt
      go_wp2
      go_ret
      refine ⟨wr.heap.size, w.heap.size, rfl, ?_, ⟨?_, fun j hj => ?_, fun j => ?_, fun j hj => ?_⟩, hb.alloc hb.size _⟩
      · simp
      · simp; omega
      · rw [World.cell?_alloc_past _ _ _ hg]; exact hr.there j hj
      · rw [World.frozen?_alloc_old _ _ _ (by exact Nat.ne_of_lt hg)]; exact hr.free j
      · rw [World.cell?_alloc_past _ _ _ hg]; exact hr.name j hj
end Go.Proofs.Ybulkbjne
