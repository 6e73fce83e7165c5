import Derived.Test.YbulkbjneMetric
import Derived.Deep.QuietTactic
import Derived.BigQuiet
import Derived.LaidEqlPtr
namespace Go.Proofs.Ybulkbjne
open Go.RowKit

set_option maxHeartbeats 400000 in
theorem check_miss (c g n cap b off : Nat) (a : Option Addr) (S : Nat → ByteArray) (name : ByteArray) (w : World) (hn : n ≤ 1024)
    (hcell : w.cell? ⟨c, 2, none⟩ = some (.slice (some ⟨g, 0, none⟩) n n)) (hrow : ∀ j, j < n → w.cell? ⟨g, j * 5, none⟩ = some (.string (S j)))
    (hc : ∀ j, j < n → a = some ⟨b, off, none⟩ ∧ w.cell? ⟨b, off + j, none⟩ = some (.string (S j)))
    (hno : ∀ j, j < n → ((S j).toList == name.toList) = false) :
    Calls Yba.prog 7 #[.pointer (some ⟨c, 0, none⟩), .slice a n cap, .string name, .pointer none] w fun e w' => e = .returned (.bool true) ∧ ∃ q, w' = w.drewN q := by
  have HN : Hid _ := hno
  clear hno
  go_enter Yba.func7, Yba.ntmps7
  go_wp2
  go_loopw [22] (fun i wr => ∃ k q : Nat, k ≤ n ∧ i = .int .i64 k ∧ wr = w.drewN q) (fun i _ => n - (intOf i).toNat)
  case atStart => exact ⟨0, 0, Nat.zero_le _, rfl, rfl⟩
  case round =>
    obtain ⟨k, q, hk, rfl, rfl⟩ := hrel
    by_cases hlt : k < n
    · have hck := hrow k hlt
      obtain ⟨rfl, hcb⟩ := hc k hlt
      have hlI : (k : Int) < (n : Int) := by omega
      have h0I : (0 : Int) ≤ (k : Int) := by omega
      go_wp2
      go_quiet (fail)
      go_wp2
      go_roundw
      case rel => exact ⟨k + 1, q + nq, by omega, by go_num, rfl⟩
      case measure => simp [intOf]; omega
    · go_wp2
      clear hlt hk
      go_loop [10, 41] (fun x i => ∃ m : Nat, m ≤ n ∧ x = .int .i64 (-1) ∧ i = .int .i64 m) (fun _ i => n - (intOf i).toNat)
      case atStart => exact ⟨0, Nat.zero_le _, rfl, rfl⟩
      case round =>
        obtain ⟨m, hm, rfl, rfl⟩ := hrel
        by_cases hlt : m < n
        · obtain ⟨rfl, hcb⟩ := hc m hlt
          have he := HN.out m hlt
          go_wp2
          go_round
          case rel => exact ⟨m + 1, by omega, rfl, by go_num⟩
          case measure => simp [intOf]; omega
        · go_wp2
          go_ret
          exact ⟨rfl, q, rfl⟩

set_option maxHeartbeats 400000 in
theorem check_hit (c g n cap b off : Nat) (a : Option Addr) (S : Nat → ByteArray) (name : ByteArray) (w : World) (hn : n ≤ 1024)
    (hcell : w.cell? ⟨c, 2, none⟩ = some (.slice (some ⟨g, 0, none⟩) n n)) (hrow : ∀ j, j < n → w.cell? ⟨g, j * 5, none⟩ = some (.string (S j)))
    (hc : ∀ j, j < n → a = some ⟨b, off, none⟩ ∧ w.cell? ⟨b, off + j, none⟩ = some (.string (S j)))
    (t : Nat) (ht : t < n) (heq : ((S t).toList == name.toList) = true) (hno : ∀ j, j < t → ((S j).toList == name.toList) = false) :
    Calls Yba.prog 7 #[.pointer (some ⟨c, 0, none⟩), .slice a n cap, .string name, .pointer (some ⟨g, t * 5, none⟩)] w fun e w' => e = .returned (.bool true) ∧ ∃ q, w' = w.drewN q := by
  have HN : Hid _ := hno
  clear hno
  go_enter Yba.func7, Yba.ntmps7
  go_wp2
  go_loopw [22] (fun i wr => ∃ k q : Nat, k ≤ n ∧ i = .int .i64 k ∧ wr = w.drewN q) (fun i _ => n - (intOf i).toNat)
  case atStart => exact ⟨0, 0, Nat.zero_le _, rfl, rfl⟩
  case round =>
    obtain ⟨k, q, hk, rfl, rfl⟩ := hrel
    by_cases hlt : k < n
    · have hck := hrow k hlt
      obtain ⟨rfl, hcb⟩ := hc k hlt
      have hlI : (k : Int) < (n : Int) := by omega
      have h0I : (0 : Int) ≤ (k : Int) := by omega
      go_wp2
      go_quiet (fail)
      go_wp2
      go_roundw
      case rel => exact ⟨k + 1, q + nq, by omega, by go_num, rfl⟩
      case measure => simp [intOf]; omega
    · go_wp2
      clear hlt hk
      go_loop [10, 41] (fun x i => ∃ m : Nat, m ≤ t ∧ x = .int .i64 (-1) ∧ i = .int .i64 m) (fun _ i => n - (intOf i).toNat)
      case atStart => exact ⟨0, Nat.zero_le _, rfl, rfl⟩
      case round =>
        obtain ⟨m, hm, rfl, rfl⟩ := hrel
        have hlt : m < n := by omega
        obtain ⟨rfl, hcb⟩ := hc m hlt
        by_cases he : m < t
        · have he' := HN.out m he
          go_wp2
          go_round
          case rel => exact ⟨m + 1, by omega, rfl, by go_num⟩
          case measure => simp [intOf]; omega
        · obtain rfl : m = t := by omega
          obtain ⟨i0, hi, _⟩ := info_parts Yba.info35
          have hp : ∀ wx, (binOp .eql 25 (.pointer (some ⟨g, m * 5, none⟩)) (.pointer (some ⟨g, m * 5, none⟩))).run Yba.prog wx = .ok (.bool true) wx := fun wx => run_eql_ptr_same wx _ Yba.underlying25 hi
          go_wp2
          go_ret
          exact ⟨rfl, q, rfl⟩
end Go.Proofs.Ybulkbjne
