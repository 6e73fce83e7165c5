import Derived.Test.YbulkbjogFmtRows
import Derived.WalkKit
import Derived.WalkSpells
import Derived.WalkLawsBesides
namespace Go.Proofs.YbulkbjogFmt
open Go.RowKit

/-- May the byte c stand at place i of a word? -/
def goodB (i : Nat) (c sep : Int) : Bool :=
  (decide (97 ≤ c) && decide (c ≤ 122)) || (decide (0 < i) && ((decide (48 ≤ c) && decide (c ≤ 57)) || c == sep))

/-- Is s a word? -/
def wordB (s : ByteArray) (sep : Int) : Bool :=
  decide (0 < s.size) && (List.range s.size).all fun i => goodB i ((s.data.toList.getD i 0).toNat : Int) sep

theorem byte_at (s : ByteArray) (i : Nat) (h : i < s.size) : s.data.toList.getD i 0 = s[i] := by
  rw [List.getD_eq_getElem?_getD, List.getElem?_eq_getElem (by simpa using h)]
  rfl

theorem word_yes {s : ByteArray} {sep : Int} (h0 : 0 < s.size) (h : ∀ i (hi : i < s.size), goodB i (s[i].toNat : Int) sep = true) : wordB s sep = true := by
  simp only [wordB, Bool.and_eq_true, decide_eq_true_eq, List.all_eq_true, List.mem_range]
  exact ⟨h0, fun i hi => by rw [byte_at s i hi]; exact h i hi⟩

theorem word_no {s : ByteArray} {sep : Int} {i : Nat} (hi : i < s.size) (h : goodB i (s[i].toNat : Int) sep = false) : wordB s sep = false := by
  simp only [wordB, Bool.and_eq_false_iff, List.all_eq_false, List.mem_range]
  exact Or.inr ⟨i, hi, by rw [byte_at s i hi, h]; simp⟩

theorem word_empty {s : ByteArray} {sep : Int} (h0 : s.size = 0) : wordB s sep = false := by
  simp [wordB, h0]

theorem ret_bool {a b : Bool} (h : a = b) : Ending.returned (.bool a) = .returned (.bool b) := by rw [h]

theorem good_letter {i : Nat} {c sep : Int} (h1 : 97 ≤ c) (h2 : c ≤ 122) : goodB i c sep = true := by simp [goodB, h1, h2]
theorem good_digit {i : Nat} {c sep : Int} (hi : 0 < i) (h1 : 48 ≤ c) (h2 : c ≤ 57) : goodB i c sep = true := by simp [goodB, h1, h2, hi]
theorem good_sep {i : Nat} {c sep : Int} (hi : 0 < i) (h : (c == sep) = true) : goodB i c sep = true := by simp [goodB, h, hi]
theorem good_not {i : Nat} {c sep : Int} (hl : ¬ (97 ≤ c ∧ c ≤ 122)) (hd : ¬ (48 ≤ c ∧ c ≤ 57)) (h : (c == sep) = false) : goodB i c sep = false := by
  have e1 : (decide (97 ≤ c) && decide (c ≤ 122)) = false := by simp; omega
  have e2 : (decide (48 ≤ c) && decide (c ≤ 57)) = false := by simp; omega
  simp [goodB, e1, e2, h]
theorem good_not0 {c sep : Int} (hl : ¬ (97 ≤ c ∧ c ≤ 122)) : goodB 0 c sep = false := by
  have e1 : (decide (97 ≤ c) && decide (c ≤ 122)) = false := by simp; omega
  simp [goodB, e1]

/-- The first k bytes may stand where they stand. -/
def Good (s : ByteArray) (sep : Int) (k : Nat) : Prop := ∀ i (hi : i < s.size), i < k → goodB i (s[i].toNat : Int) sep = true
theorem Good.zero (s : ByteArray) (sep : Int) : Good s sep 0 := fun i _ h => by omega
theorem Good.step {s : ByteArray} {sep : Int} {k : Nat} (h : Good s sep k) (hk : k < s.size) (hg : goodB k (s[k].toNat : Int) sep = true) : Good s sep (k + 1) := fun i hi hik => by
  by_cases e : i = k
  · subst e; exact hg
  · exact h i hi (by omega)

set_option maxHeartbeats 400000 in
theorem model_any (s : ByteArray) (sep : Int) (w : World) (hs : s.size ≤ maxLen) :
    Calls Ybaf.prog 8 #[.string s, .int .u8 sep] w fun e w' => e = .returned (.bool (wordB s sep)) ∧ w' = w := by
  unfold maxLen at hs
  by_cases h0 : s.size = 0
  · have HW : Hid _ := word_empty (sep := sep) h0
    go_enter Ybaf.func8, Ybaf.ntmps8
    go_wp2
    go_ret
    exact ⟨ret_bool HW.out.symm, rfl⟩
  · have h0' : 0 < s.size := by omega
    have hz : ((s.size : Int) == 0) = false := beq_eq_false_iff_ne.2 (by omega)
    by_cases hl1 : (97 : Int) ≤ (s[0].toNat : Int)
    · have hd1 : decide ((s[0].toNat : Int) < 97) = false := decide_eq_false (by omega)
      by_cases hl2 : (s[0].toNat : Int) ≤ 122
      · have hd2 : decide (122 < (s[0].toNat : Int)) = false := decide_eq_false (by omega)
        have G1 : Good s sep 1 := (Good.zero s sep).step h0' (good_letter hl1 hl2)
        go_enter Ybaf.func8, Ybaf.ntmps8
        go_wp2
        go_loop [5] (fun i => ∃ k : Nat, k ≤ s.size ∧ 1 ≤ k ∧ i = .int .i64 k ∧ Good s sep k) (fun i => s.size - (intOf i).toNat)
        case atStart => exact ⟨1, by omega, by omega, rfl, G1⟩
        case round =>
          obtain ⟨k, hk, hk1, rfl, hg⟩ := hrel
          by_cases hlt : k < s.size
          · by_cases c1 : (97 : Int) ≤ (s[k].toNat : Int) ∧ (s[k].toNat : Int) ≤ 122
            · obtain ⟨c1a, c1b⟩ := c1
              go_wp2
              go_round
              case rel => exact ⟨k + 1, by omega, by omega, by go_num, hg.step hlt (good_letter c1a c1b)⟩
              case measure => simp [intOf]; omega
            · have c1' : (s[k].toNat : Int) < 97 ∨ 122 < (s[k].toNat : Int) := by omega
              by_cases c2 : (48 : Int) ≤ (s[k].toNat : Int) ∧ (s[k].toNat : Int) ≤ 57
              · obtain ⟨c2a, c2b⟩ := c2
                clear c1 c1'
                go_wp2
                go_round
                case rel => exact ⟨k + 1, by omega, by omega, by go_num, hg.step hlt (good_digit (by omega) c2a c2b)⟩
                case measure => simp [intOf]; omega
              · cases c3 : ((s[k].toNat : Int) == sep)
                · have HW : Hid _ := word_no (sep := sep) hlt (good_not c1 c2 c3)
                  go_wp2
                  all_goals (go_ret; exact ⟨ret_bool HW.out.symm, rfl⟩)
                · have HG : Hid _ := hg.step hlt (good_sep (by omega) c3)
                  go_wp2
                  all_goals
                    go_round
                    case rel => exact ⟨k + 1, by omega, by omega, by go_num, HG.out⟩
                    case measure => simp [intOf]; omega
          · go_wp2
            go_ret
            exact ⟨ret_bool (word_yes h0' (fun i hi => hg i hi (by omega))).symm, rfl⟩
      · have HW : Hid _ := word_no (sep := sep) h0' (good_not0 (by omega))
        go_enter Ybaf.func8, Ybaf.ntmps8
        go_wp2
        go_ret
        exact ⟨ret_bool HW.out.symm, rfl⟩
    · have HW : Hid _ := word_no (sep := sep) h0' (good_not0 (by omega))
      go_enter Ybaf.func8, Ybaf.ntmps8
      go_wp2
      go_ret
      exact ⟨ret_bool HW.out.symm, rfl⟩

set_option maxHeartbeats 800000 in
theorem isWord_any (s : ByteArray) (sep : Int) (w : World) (hs : s.size ≤ maxLen) :
    Calls Ybaf.prog 10 #[.string s, .int .u8 sep] w fun e w' => e = .returned (.bool (wordB s sep)) ∧ w' = w := by
  unfold maxLen at hs
  go_enter Ybaf.func10, Ybaf.ntmps10
  go_wp2
  go_loop [5] (fun i => ∃ k : Nat, k ≤ s.size ∧ i = .int .i64 k ∧ Good s sep k) (fun i => s.size - (intOf i).toNat)
  case atStart => exact ⟨0, by omega, rfl, Good.zero _ _⟩
  case round =>
    obtain ⟨k, hk, rfl, hg⟩ := hrel
    by_cases hlt : k < s.size
    · by_cases c1 : (97 : Int) ≤ (s[k].toNat : Int)
      · by_cases c2 : (s[k].toNat : Int) ≤ 122
        · have HG : Hid _ := hg.step hlt (good_letter c1 c2)
          go_wp2
          go_round
          case rel => exact ⟨k + 1, by omega, by go_num, HG.out⟩
          case measure => simp [intOf]; omega
        · have hd : decide ((s[k].toNat : Int) ≤ 122) = false := decide_eq_false (by omega)
          have hd57 : decide ((s[k].toNat : Int) ≤ 57) = false := decide_eq_false (by omega)
          have c48 : (48 : Int) ≤ (s[k].toNat : Int) := by omega
          by_cases hk0 : 0 < k
          · have hk0' : (0 : Int) < (k : Int) := by omega
            cases c3 : ((s[k].toNat : Int) == sep)
            · have HW : Hid _ := word_no (sep := sep) hlt (good_not (by omega) (by omega) c3)
              go_wp2
              go_ret
              exact ⟨ret_bool HW.out.symm, rfl⟩
            · have HG : Hid _ := hg.step hlt (good_sep hk0 c3)
              go_wp2
              go_round
              case rel => exact ⟨k + 1, by omega, by go_num, HG.out⟩
              case measure => simp [intOf]; omega
          · obtain rfl : k = 0 := by omega
            have HW : Hid _ := word_no (sep := sep) hlt (good_not0 (by omega))
            go_wp2
            go_ret
            exact ⟨ret_bool HW.out.symm, rfl⟩
      · by_cases hk0 : 0 < k
        · have hk0' : (0 : Int) < (k : Int) := by omega
          by_cases c48 : (48 : Int) ≤ (s[k].toNat : Int)
          · by_cases c57 : (s[k].toNat : Int) ≤ 57
            · have hd57 : decide ((s[k].toNat : Int) ≤ 57) = true := decide_eq_true (by omega)
              have HG : Hid _ := hg.step hlt (good_digit hk0 c48 c57)
              go_wp2
              go_round
              case rel => exact ⟨k + 1, by omega, by go_num, HG.out⟩
              case measure => simp [intOf]; omega
            · have hd57 : decide ((s[k].toNat : Int) ≤ 57) = false := decide_eq_false (by omega)
              cases c3 : ((s[k].toNat : Int) == sep)
              · have HW : Hid _ := word_no (sep := sep) hlt (good_not (by omega) (by omega) c3)
                go_wp2
                go_ret
                exact ⟨ret_bool HW.out.symm, rfl⟩
              · have HG : Hid _ := hg.step hlt (good_sep hk0 c3)
                go_wp2
                go_round
                case rel => exact ⟨k + 1, by omega, by go_num, HG.out⟩
                case measure => simp [intOf]; omega
          · have c48' : (s[k].toNat : Int) < 48 := by omega
            cases c3 : ((s[k].toNat : Int) == sep)
            · have HW : Hid _ := word_no (sep := sep) hlt (good_not (by omega) (by omega) c3)
              go_wp2
              go_ret
              exact ⟨ret_bool HW.out.symm, rfl⟩
            · have HG : Hid _ := hg.step hlt (good_sep hk0 c3)
              go_wp2
              go_round
              case rel => exact ⟨k + 1, by omega, by go_num, HG.out⟩
              case measure => simp [intOf]; omega
        · obtain rfl : k = 0 := by omega
          have HW : Hid _ := word_no (sep := sep) hlt (good_not0 (by omega))
          go_wp2
          go_ret
          exact ⟨ret_bool HW.out.symm, rfl⟩
    · by_cases h0 : s.size = 0
      · have HW : Hid _ := word_empty (sep := sep) h0
        have he : s.toList.isEmpty = true := by rw [ByteArray.toList_eq]; simpa using Array.eq_empty_of_size_eq_zero h0
        go_wp2
        go_ret
        exact ⟨ret_bool HW.out.symm, rfl⟩
      · have HW : Hid _ := word_yes (by omega) (fun i hi => hg i hi (by omega))
        have he : s.toList.isEmpty = false := by
          rw [ByteArray.toList_eq, List.isEmpty_eq_false_iff]
          intro hn
          exact h0 (by have := congrArg List.length hn; simpa using this)
        go_wp2
        go_ret
        exact ⟨ret_bool HW.out.symm, rfl⟩
end Go.Proofs.YbulkbjogFmt
