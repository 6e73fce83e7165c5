import Derived.Test.YbulkbjneBuild
namespace Go.Proofs.Ybulkbjne
open Go.RowKit

/-- WHAT Metric ANSWERS: the address of the first of the n metrics that bears the name; nil where none does. -/
def Found (S : Nat → ByteArray) (name : ByteArray) (g n : Nat) (v : Value) : Prop :=
  (∃ k, k < n ∧ v = .pointer (some ⟨g, k * 5, none⟩) ∧ ((S k).toList == name.toList) = true ∧ ∀ j, j < k → ((S j).toList == name.toList) = false) ∨
  (v = .pointer none ∧ ∀ j, j < n → ((S j).toList == name.toList) = false)

theorem miss_step {S : Nat → ByteArray} {name : ByteArray} {k : Nat} (h : ∀ j, j < k → ((S j).toList == name.toList) = false) (hk : ((S k).toList == name.toList) = false) :
    ∀ j, j < k + 1 → ((S j).toList == name.toList) = false := fun j hj => by
  by_cases e : j = k
  · rw [e]; exact hk
  · exact h j (by omega)

set_option maxHeartbeats 400000 in
theorem metric_any (c g n : Nat) (S : Nat → ByteArray) (name : ByteArray) (w : World) (hn : n ≤ 1024)
    (hcell : w.cell? ⟨c, 2, none⟩ = some (.slice (some ⟨g, 0, none⟩) n n)) (hrow : ∀ j, j < n → w.cell? ⟨g, j * 5, none⟩ = some (.string (S j))) :
    Calls Yba.prog 6 #[.pointer (some ⟨c, 0, none⟩), .string name] w fun e w' => (∃ v, e = .returned v ∧ Found S name g n v) ∧ w' = w := by
  go_enter Yba.func6, Yba.ntmps6
  go_wp2
  go_loop [11] (fun i => ∃ k : Nat, k ≤ n ∧ i = .int .i64 k ∧ Hid (∀ j, j < k → ((S j).toList == name.toList) = false)) (fun i => n - (intOf i).toNat)
  case atStart => exact ⟨0, Nat.zero_le _, rfl, fun j hj => by omega⟩
  case round =>
    obtain ⟨k, hk, rfl, hno⟩ := hrel
    by_cases hlt : k < n
    · have hck := hrow k hlt
      go_wp2
      · have he : ((S k).toList == name.toList) = true := by assumption
        go_ret
        exact ⟨⟨_, rfl, Or.inl ⟨k, hlt, rfl, he, hno.out⟩⟩, rfl⟩
      · have he : ((S k).toList == name.toList) = false := by assumption
        go_round
        case rel => exact ⟨k + 1, by omega, by go_num, miss_step hno.out he⟩
        case measure => simp [intOf]; omega
    · obtain rfl : k = n := by omega
      go_wp2
      go_ret
      exact ⟨⟨_, rfl, Or.inr ⟨rfl, hno.out⟩⟩, rfl⟩
end Go.Proofs.Ybulkbjne
