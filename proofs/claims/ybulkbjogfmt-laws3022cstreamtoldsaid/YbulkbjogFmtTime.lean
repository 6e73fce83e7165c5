import Derived.Test.YbulkbjogFmtFrame
import Derived.Laws.Bits64b
namespace Go.Proofs.YbulkbjogFmt
open Go.RowKit

theorem and_low (n : Nat) (h : n < 1073741824) : bits .and .u64 (n : Int) 1073741823 = (n : Int) := by
  rw [show (1073741823 : Int) = ((1073741823 : Nat) : Int) from rfl, bits_and_u64_nat _ _ (by omega) (by omega)]
  have : n &&& 1073741823 = n % 2 ^ 30 := Nat.and_two_pow_sub_one_eq_mod n 30
  rw [this, Nat.mod_eq_of_lt (by omega)]

theorem and_mono (n : Nat) (h : n < 1073741824) : (bits .and .u64 (n : Int) 9223372036854775808 != 0) = false := by
  rw [show (9223372036854775808 : Int) = ((9223372036854775808 : Nat) : Int) from rfl, bits_and_u64_nat _ _ (by omega) (by omega)]
  have : n &&& 9223372036854775808 = 0 := by
    apply Nat.eq_of_testBit_eq
    intro i
    rw [Nat.testBit_and, show 9223372036854775808 = 2 ^ 63 from rfl, Nat.testBit_two_pow]
    by_cases e : 63 = i
    · subst e
      simp [Nat.testBit_lt_two_pow (show n < 2 ^ 63 from Nat.lt_of_lt_of_le h (by decide))]
    · simp [e]
  rw [this]
  rfl

theorem nsec_any (b : Nat) (wall : Nat) (x y : Value) (w : World) (h : Blk w b [.int .u64 wall, x, y] 40) (h1 : wall < 1073741824) :
    Calls Ybaf.prog 24 #[.pointer (some ⟨b, 0, none⟩)] w fun e w' => e = .returned (.int .i32 wall) ∧ w' = w := by
  have k0 := h.cell 0
  simp at k0
  have e1 := and_low wall h1
  go_enter Ybaf.func24, Ybaf.ntmps24
  go_wp2
  go_ret
  exact ⟨rfl, rfl⟩

theorem sec_any (b : Nat) (wall : Nat) (ext : Int) (y : Value) (w : World) (h : Blk w b [.int .u64 wall, .int .i64 ext, y] 40) (h1 : wall < 1073741824) :
    Calls Ybaf.prog 36 #[.pointer (some ⟨b, 0, none⟩)] w fun e w' => e = .returned (.int .i64 ext) ∧ w' = w := by
  have k0 := h.cell 0
  have k1 := h.cell 1
  simp at k0 k1
  have e2 := and_mono wall h1
  go_enter Ybaf.func36, Ybaf.ntmps36
  go_wp2
  go_ret
  exact ⟨rfl, rfl⟩

theorem unixSec_any (b : Nat) (wall : Nat) (ext : Int) (y : Value) (w : World) (h : Blk w b [.int .u64 wall, .int .i64 ext, y] 40) (h1 : wall < 1073741824) (hx0 : -10000000000 ≤ ext) (hx1 : ext ≤ 10000000000) :
    Calls Ybaf.prog 37 #[.pointer (some ⟨b, 0, none⟩)] w fun e w' => e = .returned (.int .i64 (ext + -62135596800)) ∧ w' = w := by
  go_enter Ybaf.func37, Ybaf.ntmps37
  go_wp2_with (go_at_call 36; refine (sec_any b wall ext y _ h h1).mono ?_; rintro e w' ⟨rfl, rfl⟩)
  go_ret
  exact ⟨rfl, rfl⟩

theorem unix_any (wall : Nat) (ext : Int) (w : World) (h1 : wall < 1073741824) (hx0 : -10000000000 ≤ ext) (hx1 : ext ≤ 10000000000) :
    Calls Ybaf.prog 27 #[.agg #[.int .u64 wall, .int .i64 ext, .pointer none]] w fun e w' => e = .returned (.int .i64 (ext + -62135596800)) ∧ Fr [] w w' := by
  go_enter Ybaf.func27, Ybaf.ntmps27
  go_wp2_with (go_at_call 37; refine (unixSec_any _ wall ext (.pointer none) _ (Blk.new w _ 40) h1 hx0 hx1).mono ?_; rintro e w' ⟨rfl, rfl⟩)
  go_ret
  exact ⟨rfl, (Fr.refl _ _).alloc _⟩

theorem nano_any (wall : Nat) (ext : Int) (w : World) (h1 : wall < 1073741824) :
    Calls Ybaf.prog 28 #[.agg #[.int .u64 wall, .int .i64 ext, .pointer none]] w fun e w' => e = .returned (.int .i64 wall) ∧ Fr [] w w' := by
  go_enter Ybaf.func28, Ybaf.ntmps28
  go_wp2_with (go_at_call 24; refine (nsec_any _ wall (.int .i64 ext) (.pointer none) _ (Blk.new w _ 40) h1).mono ?_; rintro e w' ⟨rfl, rfl⟩)
  go_ret
  exact ⟨rfl, (Fr.refl _ _).alloc _⟩

theorem or_zero (n : Nat) (h : n < 1073741824) : bits .or .u64 0 (n : Int) = (n : Int) := by
  rw [show (0 : Int) = ((0 : Nat) : Int) from rfl, bits_or_u64_nat _ _ (by omega) (by omega)]
  simp
theorem andNot_zero : bits .andNot .u64 0 1073741823 = 0 := by decide

theorem addSec_any (b : Nat) (wall : Nat) (d : Int) (w : World) (h : Blk w b [.int .u64 wall, .int .i64 0, .pointer none] 40) (h1 : wall < 1073741824) (hx0 : -10000000000 ≤ d) (hx1 : d ≤ 10000000000) :
    Calls Ybaf.prog 25 #[.pointer (some ⟨b, 0, none⟩), .int .i64 d] w fun e w' => e = .returned (.tuple #[]) ∧ w' = w.setCell ⟨b, 1, none⟩ (.int .i64 d) := by
  have k0 := h.cell 0
  have k1 := h.cell 1
  have f1 := h.free 1
  simp at k0 k1
  have e2 := and_mono wall h1
  go_enter Ybaf.func25, Ybaf.ntmps25
  go_wp2
  go_end0
  exact ⟨rfl, rfl⟩

set_option maxHeartbeats 400000 in
theorem add_any (d t s : Int) (r : Nat) (q : Int) (w : World) (_hd0 : -9223372036854775808 ≤ d) (_hd1 : d ≤ 9223372036854775807) (ht : d.tdiv 1000000000 = t) (hs : d.tmod 1000000000 = s)
    (ht0 : -9223372037 ≤ t) (ht1 : t ≤ 9223372037) (hs0 : -1000000000 < s) (hs1 : s < 1000000000) (hqr : (s < 0 ∧ q = t - 1 ∧ (r : Int) = s + 1000000000) ∨ (0 ≤ s ∧ q = t ∧ (r : Int) = s)) :
    Calls Ybaf.prog 13 #[.agg #[.int .u64 0, .int .i64 0, .pointer none], .int .i64 d] w fun e w' => e = .returned (.agg #[.int .u64 r, .int .i64 q, .pointer none]) ∧ Fr [] w w' := by
  rcases hqr with ⟨hn, rfl, hr⟩ | ⟨hn, rfl, hr⟩
  · have eo : bits .or .u64 (bits .andNot .u64 0 1073741823) (s + 1000000000) = (r : Int) := by rw [andNot_zero, ← hr]; exact or_zero r (by omega)
    have hr30 : r < 1073741824 := by omega
    have e2 := and_mono r hr30
    clear hr
    go_enter Ybaf.func13, Ybaf.ntmps13
    go_wp2_with (first | (go_at_call 24; refine (nsec_any _ 0 (.int .i64 0) (.pointer none) _ ?_ (by omega)).mono ?_; exact (Blk.new w _ 40).alloc _; rintro e w' ⟨rfl, rfl⟩) | (go_at_call 25; refine (addSec_any w.heap.size r (t - 1) _ ?_ hr30 (by omega) (by omega)).mono ?_; exact (Blk.new w _ 40).alloc _; rintro e w' ⟨rfl, rfl⟩))
    exact bodyPost_ret (v := .agg #[.int .u64 r, .int .i64 (t - 1), .pointer none]) (by simp [results, Ybaf.results13, go_sem]) rfl ⟨rfl, ((Fr.refl _ _).alloc _).alloc _⟩
  · have eo : bits .or .u64 (bits .andNot .u64 0 1073741823) (s) = (r : Int) := by rw [andNot_zero, ← hr]; exact or_zero r (by omega)
    have hr30 : r < 1073741824 := by omega
    have e2 := and_mono r hr30
    clear hr
    go_enter Ybaf.func13, Ybaf.ntmps13
    go_wp2_with (first | (go_at_call 24; refine (nsec_any _ 0 (.int .i64 0) (.pointer none) _ ?_ (by omega)).mono ?_; exact (Blk.new w _ 40).alloc _; rintro e w' ⟨rfl, rfl⟩) | (go_at_call 25; refine (addSec_any w.heap.size r (q) _ ?_ hr30 (by omega) (by omega)).mono ?_; exact (Blk.new w _ 40).alloc _; rintro e w' ⟨rfl, rfl⟩))
    exact bodyPost_ret (v := .agg #[.int .u64 r, .int .i64 (q), .pointer none]) (by simp [results, Ybaf.results13, go_sem]) rfl ⟨rfl, ((Fr.refl _ _).alloc _).alloc _⟩
end Go.Proofs.YbulkbjogFmt
