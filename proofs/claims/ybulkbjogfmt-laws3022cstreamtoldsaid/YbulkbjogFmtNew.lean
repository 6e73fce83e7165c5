import Derived.Test.YbulkbjogFmtWrite
namespace Go.Proofs.YbulkbjogFmt
open Go.RowKit

/-- What a slice of the call's own becomes: it owns the bytes L; since w0 nothing but S has turned. -/
def Has (base n : Nat) (L : List Int) (S : List Nat) (w0 : World) (e : Ending) (w' : World) : Prop :=
  ∃ g cap, e = .returned (.slice (some ⟨g, 0, none⟩) n cap) ∧ w'.ownsRow base 5 1 (.slice (some ⟨g, 0, none⟩) n cap) n (cb L) ∧ Fr S w0 w'

theorem Grew.has {v : Value} {base n m n' : Nat} {L M : List Int} {w w0 w' : World} {S : List Nat} {e : Ending} (hn' : n + m = n') (hown : w.ownsRow base 5 1 v n (cb L)) (hF : Fr S w0 w) (hb : w0.heap.size ≤ base)
    (h : Grew v base n (cb L) w m (cb M) e w') : Has base n' (L ++ M) S w0 e w' := by
  subst hn'
  obtain ⟨g, cap, he, h1, h2, _⟩ := h
  refine ⟨g, cap, he, by rw [cb_append]; exact h1, hF.andThen h2 (fun x hx => .inr ?_)⟩
  have := (hown.lt x (by simpa using hx)).1
  omega

theorem au32_has (v : Value) (n n' : Nat) (L : List Int) (x : Int) (base : Nat) (S : List Nat) (w0 w : World) (hn' : n + 4 = n') (hx0 : 0 ≤ x) (hx1 : x < 4294967296) (hown : w.ownsRow base 5 1 v n (cb L)) (hn : n ≤ 1099511627776) (hF : Fr S w0 w) (hb : w0.heap.size ≤ base) (hbw : base ≤ w.heap.size) :
    Calls Ybaf.prog 19 #[.agg #[], v, .int .u32 x] w (Has base n' (L ++ le32 x) S w0) :=
  (au32_any v n (cb L) x base w hx0 hx1 hown hn hbw).mono fun _ _ h => h.has hn' hown hF hb
theorem au16_has (v : Value) (n n' : Nat) (L : List Int) (x : Int) (base : Nat) (S : List Nat) (w0 w : World) (hn' : n + 2 = n') (hx0 : 0 ≤ x) (hx1 : x < 65536) (hown : w.ownsRow base 5 1 v n (cb L)) (hn : n ≤ 1099511627776) (hF : Fr S w0 w) (hb : w0.heap.size ≤ base) (hbw : base ≤ w.heap.size) :
    Calls Ybaf.prog 20 #[.agg #[], v, .int .u16 x] w (Has base n' (L ++ le16 x) S w0) :=
  (au16_any v n (cb L) x base w hx0 hx1 hown hn hbw).mono fun _ _ h => h.has hn' hown hF hb
theorem le32_has (v : Value) (n n' : Nat) (L : List Int) (x : Int) (base : Nat) (S : List Nat) (w0 w : World) (hn' : n + 4 = n') (hx0 : 0 ≤ x) (hx1 : x < 4294967296) (hown : w.ownsRow base 5 1 v n (cb L)) (hn : n ≤ 1099511627776) (hF : Fr S w0 w) (hb : w0.heap.size ≤ base) (hbw : base ≤ w.heap.size) :
    Calls Ybaf.prog 12 #[v, .int .u32 x] w (Has base n' (L ++ le32 x) S w0) :=
  (le32_any v n (cb L) x base w hx0 hx1 hown hn hbw).mono fun _ _ h => h.has hn' hown hF hb

/-- The file's header. -/
def hdr (lt : Int) : List Int := (((((([] ++ le32 2712847316) ++ le16 2) ++ le16 4) ++ le32 0) ++ le32 0) ++ le32 65535) ++ le32 lt

theorem splice_zero {zs cs : List Value} {k : Nat} (h : cs.length = k) : (splice zs 0 cs).take k = cs := by
  subst h
  simp [splice]

set_option maxRecDepth 100000 in
set_option maxHeartbeats 800000 in
theorem newWriter_any (T : TypeId) (hT : T = 30 ∨ T = 51) (p : Addr) (lt : Int) (w : World) (hl0 : 0 ≤ lt) (hl1 : lt < 4294967296) :
    Calls Ybaf.prog 11 #[.iface T (.pointer (some p)), .int .u32 lt] w fun e w' => ∃ wb c g zs, e = .returned (.pointer (some ⟨wb, 0, none⟩)) ∧ Blk w' wb [.pointer (some ⟨c, 0, none⟩), .int .i64 0] 48 ∧ BW w' c g .nilIface 24 (.iface T (.pointer (some p))) zs ∧ zs.take 24 = cb (hdr lt) ∧ Fr [] w w' ∧ w.heap.size ≤ wb ∧ w.heap.size ≤ c ∧ w.heap.size ≤ g := by
  have HT : Hid (T = 30 ∨ T = 51) := hT
  clear hT
  go_enter Ybaf.func11, Ybaf.ntmps11
  go_wp2_with fail
  refine (au32_has _ 0 4 [] _ w.heap.size [] w w rfl (by omega) (by omega) (World.ownsRow_nil _ _ _ _) (by omega) (Fr.refl _ _) (Nat.le_refl _) (Nat.le_refl _)).mono ?_
  rintro e w1 ⟨g1, cap1, rfl, hown1, hF1⟩
  go_wp2_with fail
  refine (au16_has _ 4 6 _ _ w.heap.size [] w _ rfl (by omega) (by omega) hown1 (by omega) hF1 (Nat.le_refl _) hF1.size).mono ?_
  rintro e w2 ⟨g2, cap2, rfl, hown2, hF2⟩
  clear hown1 hF1
  go_wp2_with fail
  refine (au16_has _ 6 8 _ _ w.heap.size [] w _ rfl (by omega) (by omega) hown2 (by omega) hF2 (Nat.le_refl _) hF2.size).mono ?_
  rintro e w3 ⟨g3, cap3, rfl, hown3, hF3⟩
  clear hown2 hF2
  go_wp2_with fail
  refine (au32_has _ 8 12 _ _ w.heap.size [] w _ rfl (by omega) (by omega) hown3 (by omega) hF3 (Nat.le_refl _) hF3.size).mono ?_
  rintro e w4 ⟨g4, cap4, rfl, hown4, hF4⟩
  clear hown3 hF3
  go_wp2_with fail
  refine (au32_has _ 12 16 _ _ w.heap.size [] w _ rfl (by omega) (by omega) hown4 (by omega) hF4 (Nat.le_refl _) hF4.size).mono ?_
  rintro e w5 ⟨g5, cap5, rfl, hown5, hF5⟩
  clear hown4 hF4
  go_wp2_with fail
  refine (au32_has _ 16 20 _ _ w.heap.size [] w _ rfl (by omega) (by omega) hown5 (by omega) hF5 (Nat.le_refl _) hF5.size).mono ?_
  rintro e w6 ⟨g6, cap6, rfl, hown6, hF6⟩
  clear hown5 hF5
  go_wp2_with fail
  refine (au32_has _ 20 24 _ lt w.heap.size [] w _ rfl hl0 hl1 hown6 (by omega) hF6 (Nat.le_refl _) hF6.size).mono ?_
  rintro e w7 ⟨g7, cap7, rfl, hown7, hF7⟩
  clear hown6 hF6
  have HO : Hid (w7.ownsRow w.heap.size 5 1 (.slice (some ⟨g7, 0, none⟩) 24 cap7) 24 (cb (hdr lt))) := hown7
  clear hown7
  go_wp2_with fail
  refine (newBuf_any T HT.out p _).mono ?_
  rintro e w8 ⟨c, g, zs, rfl, hB, hF8, hg, hc⟩
  have HO8 : Hid (w8.ownsRow w.heap.size 5 1 (.slice (some ⟨g7, 0, none⟩) 24 cap7) 24 (cb (hdr lt))) := hF8.owns HO.out (by simp)
  go_wp2_with fail
  refine (write_fits c g _ 0 24 cap7 _ (cb (hdr lt)) zs _ hB (by omega) (by omega) rfl (fun _ => ⟨_, rfl, HO8.out.cells rfl⟩) (cb_one _)).mono ?_
  rintro e w9 ⟨rfl, hB9, hF9⟩
  go_wp2
  go_ret
  have hs := hF7.size
  have hs8 := hF8.size
  have hs9 := hF9.size
  refine ⟨w9.heap.size, c, g, splice zs 0 (cb (hdr lt)), rfl, Blk.new w9 _ _, ⟨hB9.st.alloc _, hB9.buf.alloc _, hB9.len⟩, splice_zero rfl, ?_, by omega, by omega, by omega⟩
  exact ((hF7.andThen hF8 (fun x hx => by cases hx)).andThen hF9 (fun x hx => .inr (by simp at hx; rcases hx with h | h <;> omega))).alloc _
end Go.Proofs.YbulkbjogFmt
