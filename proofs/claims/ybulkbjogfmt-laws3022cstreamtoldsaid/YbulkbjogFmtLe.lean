import Derived.Test.YbulkbjogFmtFrame
namespace Go.Proofs.YbulkbjogFmt
open Go.RowKit

/-- WHAT AN append LEAVES: a new slice, owning the old bytes and the new ones; nothing else has turned but the old slice's own row. -/
def Grew (v : Value) (base n : Nat) (xs : List Value) (w : World) (m : Nat) (news : List Value) (e : Ending) (w' : World) : Prop :=
  ∃ g cap, e = .returned (.slice (some ⟨g, 0, none⟩) (n + m) cap) ∧ w'.ownsRow base 5 1 (.slice (some ⟨g, 0, none⟩) (n + m) cap) (n + m) (xs ++ news) ∧ Fr v.ownBlock.toList w w' ∧ (v.ownBlock = some g ∨ w.heap.size ≤ g)

set_option maxRecDepth 100000 in
set_option maxHeartbeats 400000 in
theorem au32_any (v : Value) (n : Nat) (xs : List Value) (x : Int) (base : Nat) (w : World) (hx0 : 0 ≤ x) (hx1 : x < 4294967296) (hown : w.ownsRow base 5 1 v n xs) (hn : n ≤ 1099511627776) (hb : base ≤ w.heap.size) :
    Calls Ybaf.prog 19 #[.agg #[], v, .int .u32 x] w (Grew v base n xs w 4 (cb (le32 x))) := by
  obtain ⟨i0, hi, hz0, hz1, hz2⟩ := info_parts Ybaf.info5
  have hH : Hid (w.ownsRow base 5 1 v n xs) := hown
  clear hown
  go_enter Ybaf.func19, Ybaf.ntmps19
  go_wp2_with (at_builtin; (refine wpList_append_lies _ rfl _ _ 22 rfl base 5 i0 (.int .u8 0) 1 1 Ybaf.underlying22 hi hz0 hz1 hz2 rfl (by decide) v n xs (by rfl) ((hH.out.alloc _).alloc _) ⟨w.heap.size + 1, 0, none⟩ 4 4 (cb (le32 x)) (by rfl) (by rfl) (news_new (cb (le32 x)) 5 (by simp)) (cb_one _) (by decide) (by unfold maxLen; omega) (by omega) (by simp; omega) (w.heap.size + 1 + 1) (by simp) ?_; intro g cap w1 hown1 hgrow1 hat1 hlt1))
  go_wp2
  go_ret
  refine ⟨g, cap, rfl, hown1, (((Fr.refl _ w).alloc _).alloc _).grown hgrow1 (fun k hk => .inl (by simp [hk])), ?_⟩
  rcases hat1 with h | h
  · exact .inl h
  · exact .inr (by omega)

set_option maxRecDepth 100000 in
set_option maxHeartbeats 400000 in
theorem au16_any (v : Value) (n : Nat) (xs : List Value) (x : Int) (base : Nat) (w : World) (hx0 : 0 ≤ x) (hx1 : x < 65536) (hown : w.ownsRow base 5 1 v n xs) (hn : n ≤ 1099511627776) (hb : base ≤ w.heap.size) :
    Calls Ybaf.prog 20 #[.agg #[], v, .int .u16 x] w (Grew v base n xs w 2 (cb (le16 x))) := by
  obtain ⟨i0, hi, hz0, hz1, hz2⟩ := info_parts Ybaf.info5
  have hH : Hid (w.ownsRow base 5 1 v n xs) := hown
  clear hown
  go_enter Ybaf.func20, Ybaf.ntmps20
  go_wp2_with (at_builtin; (refine wpList_append_lies _ rfl _ _ 22 rfl base 5 i0 (.int .u8 0) 1 1 Ybaf.underlying22 hi hz0 hz1 hz2 rfl (by decide) v n xs (by rfl) ((hH.out.alloc _).alloc _) ⟨w.heap.size + 1, 0, none⟩ 2 2 (cb (le16 x)) (by rfl) (by rfl) (news_new (cb (le16 x)) 5 (by simp)) (cb_one _) (by decide) (by unfold maxLen; omega) (by omega) (by simp; omega) (w.heap.size + 1 + 1) (by simp) ?_; intro g cap w1 hown1 hgrow1 hat1 hlt1))
  go_wp2
  go_ret
  refine ⟨g, cap, rfl, hown1, (((Fr.refl _ w).alloc _).alloc _).grown hgrow1 (fun k hk => .inl (by simp [hk])), ?_⟩
  rcases hat1 with h | h
  · exact .inl h
  · exact .inr (by omega)

set_option maxRecDepth 100000 in
set_option maxHeartbeats 400000 in
theorem le32_any (v : Value) (n : Nat) (xs : List Value) (x : Int) (base : Nat) (w : World) (hx0 : 0 ≤ x) (hx1 : x < 4294967296) (hown : w.ownsRow base 5 1 v n xs) (hn : n ≤ 1099511627776) (hb : base ≤ w.heap.size) :
    Calls Ybaf.prog 12 #[v, .int .u32 x] w (Grew v base n xs w 4 (cb (le32 x))) := by
  obtain ⟨i0, hi, hz0, hz1, hz2⟩ := info_parts Ybaf.info5
  have hH : Hid (w.ownsRow base 5 1 v n xs) := hown
  clear hown
  go_enter Ybaf.func12, Ybaf.ntmps12
  go_wp2_with (at_builtin; (refine wpList_append_lies _ rfl _ _ 22 rfl base 5 i0 (.int .u8 0) 1 1 Ybaf.underlying22 hi hz0 hz1 hz2 rfl (by decide) v n xs (by rfl) (hH.out.alloc _) ⟨w.heap.size, 0, none⟩ 4 4 (cb (le32 x)) (by rfl) (by rfl) (news_new (cb (le32 x)) 5 (by simp)) (cb_one _) (by decide) (by unfold maxLen; omega) (by omega) (by simp; omega) (w.heap.size + 1) (by simp) ?_; intro g cap w1 hown1 hgrow1 hat1 hlt1))
  go_wp2
  go_ret
  refine ⟨g, cap, rfl, hown1, ((Fr.refl _ w).alloc _).grown hgrow1 (fun k hk => .inl (by simp [hk])), ?_⟩
  rcases hat1 with h | h
  · exact .inl h
  · exact .inr (by omega)
end Go.Proofs.YbulkbjogFmt
