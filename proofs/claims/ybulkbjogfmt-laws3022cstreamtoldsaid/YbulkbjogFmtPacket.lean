import Derived.Test.YbulkbjogFmtNew
import Derived.Test.YbulkbjogFmtTime
import Derived.Test.YbulkbjogFmtErr
import Derived.Test.YbulkbjogFmtApp
namespace Go.Proofs.YbulkbjogFmt
open Go.RowKit

/-- One record's head and octets. -/
def recB (s u : Int) (m : Nat) (P : List Int) : List Int := ((((([] ++ le32 s) ++ le32 u) ++ le32 m) ++ le32 m) ++ P)

theorem wrap_u32 (n : Int) : IntKind.u32.wrap n = n % 4294967296 := by simp [IntKind.wrap, IntKind.bits, IntKind.signed]

theorem wrap_small (x : Int) (h0 : 0 ≤ x) (h1 : x < 1000000) : IntKind.u32.wrap (IntKind.i64.wrap x) = x := by
  have h : IntKind.i64.wrap x = x := by rw [IntKind.wrap_i64]; omega
  rw [h, wrap_u32]
  exact Int.emod_eq_of_lt h0 (by omega)
theorem u_wrap (r : Nat) (hr : r < 1000000000) : IntKind.u32.wrap (IntKind.i64.wrap ((r : Int) / 1000)) = ((r / 1000 : Nat) : Int) := by
  have e : (r : Int) / 1000 = ((r / 1000 : Nat) : Int) := by omega
  rw [e]
  exact wrap_small _ (by omega) (by omega)

/-- In the midst of WritePacket: the packet's time is boxed, the records are counted, the record's bytes so far lie in a slice of the call's own; else all is as it was. -/
structure Rec (w : World) (wb c recs r : Nat) (q : Int) (n : Nat) (L : List Int) (v : Value) (w' : World) : Prop where
  lt : wb < w.heap.size
  tb : Blk w' w.heap.size [.int .u64 r, .int .i64 q, .pointer none] 40
  wr : Blk w' wb [.pointer (some ⟨c, 0, none⟩), .int .i64 ((recs : Int) + 1)] 48
  fr : Fr [wb] w w'
  own : w'.ownsRow (w.heap.size + 1) 5 1 v n (cb L)

theorem Rec.step {w a b : World} {wb c recs r n : Nat} {q : Int} {L : List Int} {v : Value} (h : Rec w wb c recs r q n L v a) (hf : Fr [] a b) : Rec w wb c recs r q n L v b :=
  ⟨h.lt, h.tb.fr hf (by simp), h.wr.fr hf (by simp), h.fr.andThen hf (fun x hx => by cases hx), hf.owns h.own (by simp)⟩

theorem Rec.drew {w a : World} {wb c recs r n : Nat} {q : Int} {L : List Int} {v : Value} (h : Rec w wb c recs r q n L v a) : Rec w wb c recs r q n L v a.drew := h.step ((Fr.refl [] a).drew)

theorem Rec.grew {w a b : World} {wb c recs r n m n' : Nat} {q : Int} {L M : List Int} {v : Value} {e : Ending} (h : Rec w wb c recs r q n L v a) (hn' : n + m = n') (hg : Grew v (w.heap.size + 1) n (cb L) a m (cb M) e b) :
    ∃ g cap, e = .returned (.slice (some ⟨g, 0, none⟩) n' cap) ∧ Rec w wb c recs r q n' (L ++ M) (.slice (some ⟨g, 0, none⟩) n' cap) b := by
  subst hn'
  obtain ⟨g, cap, he, h1, h2, _⟩ := hg
  have hS : ∀ x, x ∈ v.ownBlock.toList → w.heap.size + 1 ≤ x := fun x hx => (h.own.lt x (by simpa using hx)).1
  have hlt := h.lt
  refine ⟨g, cap, he, h.lt, h.tb.fr h2 (fun hx => by have := hS _ hx; omega), h.wr.fr h2 (fun hx => by have := hS _ hx; omega), h.fr.andThen h2 (fun x hx => .inr (by have := hS x hx; omega)), ?_⟩
  rw [cb_append]
  exact h1

theorem Rec.app {w a b : World} {wb c recs r n m n' g cap : Nat} {q : Int} {L M : List Int} {v : Value} (h : Rec w wb c recs r q n L v a) (hn' : n + m = n')
    (h1 : b.ownsRow (w.heap.size + 1) 5 1 (.slice (some ⟨g, 0, none⟩) (n + m) cap) (n + m) (cb L ++ cb M)) (h2 : Fr v.ownBlock.toList a b) : Rec w wb c recs r q n' (L ++ M) (.slice (some ⟨g, 0, none⟩) n' cap) b := by
  subst hn'
  have hS : ∀ x, x ∈ v.ownBlock.toList → w.heap.size + 1 ≤ x := fun x hx => (h.own.lt x (by simpa using hx)).1
  have hlt := h.lt
  refine ⟨h.lt, h.tb.fr h2 (fun hx => by have := hS _ hx; omega), h.wr.fr h2 (fun hx => by have := hS _ hx; omega), h.fr.andThen h2 (fun x hx => .inr (by have := hS x hx; omega)), ?_⟩
  rw [cb_append]
  exact h1

theorem blk2_ptr {w : World} {b : Nat} {x y : Value} {t : TypeId} (h : Blk w b [x, y] t) : w.cell? ⟨b, 0, none⟩ = some x := by simpa using h.cell 0

theorem Rec.ptr {w a : World} {wb c recs r n : Nat} {q : Int} {L : List Int} {v : Value} (h : Rec w wb c recs r q n L v a) : a.cell? ⟨wb, 0, none⟩ = some (.pointer (some ⟨c, 0, none⟩)) := by
  simpa using h.wr.cell 0

theorem au32_rec {w a : World} {wb c recs r n : Nat} (n' : Nat) {q : Int} {L : List Int} {v : Value} (x : Int) (h : Rec w wb c recs r q n L v a) (hn' : n + 4 = n') (hn : n ≤ 100000) (hx0 : 0 ≤ x) (hx1 : x < 4294967296) :
    Calls Ybaf.prog 19 #[.agg #[], v, .int .u32 x] a fun e b => ∃ g cap, e = .returned (.slice (some ⟨g, 0, none⟩) n' cap) ∧ Rec w wb c recs r q n' (L ++ le32 x) (.slice (some ⟨g, 0, none⟩) n' cap) b := by
  have := h.tb.lt
  exact (au32_any v n (cb L) x (w.heap.size + 1) a hx0 hx1 h.own (by omega) (by omega)).mono fun _ _ hg => h.grew hn' hg

theorem Rec.cells {w a : World} {wb c recs r n : Nat} {q : Int} {L : List Int} {v : Value} (h : Rec w wb c recs r q n L v a) : a.cell? ⟨w.heap.size, 0, none⟩ = some (.int .u64 r) ∧ a.cell? ⟨w.heap.size, 1, none⟩ = some (.int .i64 q) ∧ a.cell? ⟨w.heap.size, 2, none⟩ = some (.pointer none) := by
  have h0 := h.tb.cell 0
  have h1 := h.tb.cell 1
  have h2 := h.tb.cell 2
  simp at h0 h1 h2
  exact ⟨h0, h1, h2⟩

theorem Rec.made {w w1 : World} {wb c recs r k : Nat} {q : Int} (hw : Blk w wb [.pointer (some ⟨c, 0, none⟩), .int .i64 recs] 48)
    (h1 : w1.ownsRow (w.heap.size + 1) 5 1 (.slice (some ⟨w.heap.size + 1, 0, none⟩) 0 k) 0 [])
    (hg : ((w.setCell ⟨wb, 1, none⟩ (.int .i64 ((recs : Int) + 1))).alloc (.cells #[.int .u64 r, .int .i64 q, .pointer none] 40)).grownBy w1 none) : Rec w wb c recs r q 0 [] (.slice (some ⟨w.heap.size + 1, 0, none⟩) 0 k) w1 := by
  have hf : Fr [] ((w.setCell ⟨wb, 1, none⟩ (.int .i64 ((recs : Int) + 1))).alloc (.cells #[.int .u64 r, .int .i64 q, .pointer none] 40)) w1 := (Fr.refl [] _).grown hg (fun k hk => by cases hk)
  have hs : (w.setCell ⟨wb, 1, none⟩ (.int .i64 ((recs : Int) + 1))).heap.size = w.heap.size := by simp [World.setCell]
  refine ⟨hw.lt, ?_, ?_, ?_, h1⟩
  · have hb := Blk.new (w.setCell ⟨wb, 1, none⟩ (.int .i64 ((recs : Int) + 1))) [.int .u64 r, .int .i64 q, .pointer none] 40
    rw [hs] at hb
    exact hb.fr hf (by simp)
  · have hb := (hw.set 1 (.int .i64 ((recs : Int) + 1))).alloc (.cells #[.int .u64 r, .int .i64 q, .pointer none] 40)
    exact Blk.fr (by simpa using hb) hf (by simp)
  · exact (((Fr.refl [wb] w).setCell (.inl (by simp)) _).alloc _).andThen hf (fun x hx => by cases hx)

set_option maxRecDepth 100000 in
set_option maxHeartbeats 1600000 in
theorem packet_any (wb c : Nat) (recs r m cap : Nat) (q s u : Int) (ap : Option Addr) (w : World) (hs : (q + -62135596800) % 4294967296 = s) (hu : ((r / 1000 : Nat) : Int) = u) (hr : r < 1000000000) (hq0 : -10000000000 ≤ q) (hq1 : q ≤ 10000000000) (hm : m ≤ 65535) (hrecs : recs ≤ 1000000)
    (hw : Blk w wb [.pointer (some ⟨c, 0, none⟩), .int .i64 recs] 48) (P : List Int) (hp : Src w ap m cap (cb P)) (hpb : 0 < m → ∀ ad, ap = some ad → ad.block ≠ wb) (Q : World → Prop)
    (hW : ∀ (w1 : World) (g cap' : Nat), Blk w1 wb [.pointer (some ⟨c, 0, none⟩), .int .i64 ((recs : Int) + 1)] 48 → Fr [wb] w w1 → w1.ownsRow (w.heap.size + 1) 5 1 (.slice (some ⟨g, 0, none⟩) (16 + m) cap') (16 + m) (cb (recB s u m P)) →
      Calls Ybaf.prog 22 #[.pointer (some ⟨c, 0, none⟩), .slice (some ⟨g, 0, none⟩) (16 + m) cap'] w1 fun e w' => (∃ k : Nat, e = .returned (.tuple #[.int .i64 k, .nilIface])) ∧ Blk w' wb [.pointer (some ⟨c, 0, none⟩), .int .i64 ((recs : Int) + 1)] 48 ∧ Q w') :
    Calls Ybaf.prog 14 #[.pointer (some ⟨wb, 0, none⟩), .agg #[.int .u64 r, .int .i64 q, .pointer none], .slice ap m cap] w fun e w' => e = .returned .nilIface ∧ Q w' := by
  obtain ⟨i0, hi, hz0, hz1, hz2⟩ := info_parts Ybaf.info5
  have huw : IntKind.u32.wrap (IntKind.i64.wrap ((r : Int) / 1000)) = u := (u_wrap r hr).trans hu
  have HP : Hid (Src w ap m cap (cb P)) := hp
  have HB : Hid (0 < m → ∀ ad, ap = some ad → ad.block ≠ wb) := hpb
  have HC : Hid (∀ (w1 : World) (g cap' : Nat), Blk w1 wb [.pointer (some ⟨c, 0, none⟩), .int .i64 ((recs : Int) + 1)] 48 → Fr [wb] w w1 → w1.ownsRow (w.heap.size + 1) 5 1 (.slice (some ⟨g, 0, none⟩) (16 + m) cap') (16 + m) (cb (recB s u m P)) →
      Calls Ybaf.prog 22 #[.pointer (some ⟨c, 0, none⟩), .slice (some ⟨g, 0, none⟩) (16 + m) cap'] w1 fun e w' => (∃ k : Nat, e = .returned (.tuple #[.int .i64 k, .nilIface])) ∧ Blk w' wb [.pointer (some ⟨c, 0, none⟩), .int .i64 ((recs : Int) + 1)] 48 ∧ Q w') := hW
  clear hp hpb hW
  have hsw : IntKind.u32.wrap (q + -62135596800) = s := by rw [wrap_u32]; exact hs
  have hs0 : 0 ≤ s := by omega
  have hs1 : s < 4294967296 := by omega
  have hu0 : 0 ≤ u := by omega
  have hu1 : u < 4294967296 := by omega
  clear hs hu
  have k0 := hw.cell 0
  have k1 := hw.cell 1
  have f1 := hw.free 1
  have hwl := hw.lt
  simp at k0 k1
  have HW : Hid (Blk w wb [.pointer (some ⟨c, 0, none⟩), .int .i64 recs] 48) := hw
  clear hw
  go_enter Ybaf.func14, Ybaf.ntmps14
  go_wp2_with (first | (at_make; refine wpList_make_own _ rfl _ _ 22 rfl (w.heap.size + 1) 5 i0 _ 1 Ybaf.underlying22 hi hz0 hz1 .i64 .i64 _ (16 + m) rfl rfl (by omega) (by rw [hz2]; omega) (by unfold maxLen; omega) (by simp) ?_; intro w1 hown1 hgrow1))
  have R1 : Hid (Rec w wb c recs r q 0 [] (.slice (some ⟨w.heap.size + 1, 0, none⟩) 0 (16 + m)) w1) := Rec.made HW.out (by simpa using hown1) hgrow1
  obtain ⟨t0, t1, t2⟩ := R1.out.cells
  clear hown1 hgrow1 k0 k1 f1
  go_region_held3 (fun w' => w'.cell? ⟨w.heap.size, 0, none⟩ = some (.int .u64 r) ∧ w'.cell? ⟨w.heap.size, 1, none⟩ = some (.int .i64 q) ∧ w'.cell? ⟨w.heap.size, 2, none⟩ = some (.pointer none)) (first | go_keep | exact (R1.out.drew.step hf2).cells | exact R3.cells) ((first | (go_at_call 27; refine (unix_any r q _ (by omega) hq0 hq1).mono ?_; rintro e w2 ⟨rfl, hf2⟩) | (go_at_call 19; refine (au32_rec 4 _ (R1.out.drew.step hf2) rfl (by omega) (by omega) (by omega)).mono ?_; rintro e w3 ⟨g3, cap3, rfl, R3⟩)))
  have R3' : Hid (Rec w wb c recs r q 4 ([] ++ le32 s) (.slice (some ⟨g3, 0, none⟩) 4 cap3) w3) := R3
  clear t0 t1 t2 hf2 R1 R3
  obtain ⟨t0, t1, t2⟩ := R3'.out.cells
  go_wp2
  go_region_held3 (fun w' => w'.cell? ⟨w.heap.size, 0, none⟩ = some (.int .u64 r) ∧ w'.cell? ⟨w.heap.size, 1, none⟩ = some (.int .i64 q) ∧ w'.cell? ⟨w.heap.size, 2, none⟩ = some (.pointer none)) (first | go_keep | exact (R3'.out.drew.step hf4).cells | exact R5.cells) ((first | (go_at_call 28; refine (nano_any r q _ (by omega)).mono ?_; rintro e w4 ⟨rfl, hf4⟩) | (go_at_call 19; refine (au32_rec 8 _ (R3'.out.drew.step hf4) rfl (by omega) (by omega) (by omega)).mono ?_; rintro e w5 ⟨g5, cap5, rfl, R5⟩)))
  have R5' : Hid (Rec w wb c recs r q 8 (([] ++ le32 s) ++ le32 u) (.slice (some ⟨g5, 0, none⟩) 8 cap5) w5) := R5
  clear t0 t1 t2 hf4 R3' R5 huw hsw
  go_wp2_with fail
  refine (au32_rec 12 (m : Int) R5'.out rfl (by omega) (by omega) (by omega)).mono ?_
  rintro e w6 ⟨g6, cap6, rfl, R6⟩
  have R6' : Hid (Rec w wb c recs r q 12 ((([] ++ le32 s) ++ le32 u) ++ le32 m) (.slice (some ⟨g6, 0, none⟩) 12 cap6) w6) := R6
  clear R5' R6
  go_wp2_with fail
  refine (au32_rec 16 (m : Int) R6'.out rfl (by omega) (by omega) (by omega)).mono ?_
  rintro e w7 ⟨g7, cap7, rfl, R7⟩
  have R7' : Hid (Rec w wb c recs r q 16 (((([] ++ le32 s) ++ le32 u) ++ le32 m) ++ le32 m) (.slice (some ⟨g7, 0, none⟩) 16 cap7) w7) := R7
  clear R6' R7
  have j0 := R7'.out.wr.cell 0
  simp at j0
  have hsz7 := R7'.out.tb.lt
  have HS7 : Hid (Src w7 ap m cap (cb P)) := HP.out.fr R7'.out.fr (fun hm0 ad had => by simpa using HB.out hm0 ad had)
  go_wp2_with fail
  go_region_held3 (fun w' => w'.cell? ⟨wb, 0, none⟩ = some (.pointer (some ⟨c, 0, none⟩))) (first | go_keep | exact (R7'.out.drew.app rfl hown9 hfr9).ptr | exact blk2_ptr hb10) ((first | (refine step_append_src (by rfl) (.tmp 60) (.tmp 61) (by rfl) (w.heap.size + 1) (.slice (some ⟨g7, 0, none⟩) 16 cap7) 16 (cb (((([] ++ le32 s) ++ le32 u) ++ le32 m) ++ le32 m)) (by simp [Act.eval]) R7'.out.own ap m cap (cb P) (by simp [Act.eval]) HS7.out (by omega) (by omega) (by exact hsz7) ?_; intro g9 cap9 w9 hown9 hfr9 hat9) | (go_at_call 22; refine (HC.out _ g9 cap9 (R7'.out.drew.app rfl hown9 hfr9).wr (R7'.out.drew.app rfl hown9 hfr9).fr (R7'.out.drew.app rfl hown9 hfr9).own).mono ?_; rintro e w10 ⟨⟨k10, rfl⟩, hb10, hQ⟩)))
  go_wp2
  go_ret
  exact ⟨rfl, hQ⟩

set_option maxRecDepth 100000 in
set_option maxHeartbeats 1600000 in
theorem packet_err (F : Stop.Interp) (qa : Addr) (sv : ByteArray) (wb c : Nat) (recs r m cap : Nat) (q s u : Int) (ap : Option Addr) (w : World) (hs : (q + -62135596800) % 4294967296 = s) (hu : ((r / 1000 : Nat) : Int) = u) (hr : r < 1000000000) (hq0 : -10000000000 ≤ q) (hq1 : q ≤ 10000000000) (hm : m ≤ 65535) (hrecs : recs ≤ 1000000)
    (hw : Blk w wb [.pointer (some ⟨c, 0, none⟩), .int .i64 recs] 48) (P : List Int) (hp : Src w ap m cap (cb P)) (hpb : 0 < m → ∀ ad, ap = some ad → ad.block ≠ wb) (Q : World → Prop)
    (hW : ∀ (w1 : World) (g cap' : Nat), Blk w1 wb [.pointer (some ⟨c, 0, none⟩), .int .i64 ((recs : Int) + 1)] 48 → Fr [wb] w w1 → w1.ownsRow (w.heap.size + 1) 5 1 (.slice (some ⟨g, 0, none⟩) (16 + m) cap') (16 + m) (cb (recB s u m P)) →
      Calls Ybaf.prog 22 #[.pointer (some ⟨c, 0, none⟩), .slice (some ⟨g, 0, none⟩) (16 + m) cap'] w1 fun e w' => (∃ k : Nat, e = .returned (.tuple #[.int .i64 k, .iface 73 (.pointer (some qa))])) ∧ Blk w' wb [.pointer (some ⟨c, 0, none⟩), .int .i64 ((recs : Int) + 1)] 48 ∧ w'.cell? qa = some (.string sv) ∧ F.answers w'.tape ∧ Q w') :
    Calls Ybaf.prog 14 #[.pointer (some ⟨wb, 0, none⟩), .agg #[.int .u64 r, .int .i64 q, .pointer none], .slice ap m cap] w fun e w' => ∃ k w10, e = .returned (.iface 86 (.pointer (some ⟨k, 0, none⟩))) ∧ w'.cell? ⟨k, 1, none⟩ = some (.iface 73 (.pointer (some qa))) ∧ Fr [] w10 w' ∧ Q w10 := by
  obtain ⟨i0, hi, hz0, hz1, hz2⟩ := info_parts Ybaf.info5
  have huw : IntKind.u32.wrap (IntKind.i64.wrap ((r : Int) / 1000)) = u := (u_wrap r hr).trans hu
  have HP : Hid (Src w ap m cap (cb P)) := hp
  have HB : Hid (0 < m → ∀ ad, ap = some ad → ad.block ≠ wb) := hpb
  have HC : Hid (∀ (w1 : World) (g cap' : Nat), Blk w1 wb [.pointer (some ⟨c, 0, none⟩), .int .i64 ((recs : Int) + 1)] 48 → Fr [wb] w w1 → w1.ownsRow (w.heap.size + 1) 5 1 (.slice (some ⟨g, 0, none⟩) (16 + m) cap') (16 + m) (cb (recB s u m P)) →
      Calls Ybaf.prog 22 #[.pointer (some ⟨c, 0, none⟩), .slice (some ⟨g, 0, none⟩) (16 + m) cap'] w1 fun e w' => (∃ k : Nat, e = .returned (.tuple #[.int .i64 k, .iface 73 (.pointer (some qa))])) ∧ Blk w' wb [.pointer (some ⟨c, 0, none⟩), .int .i64 ((recs : Int) + 1)] 48 ∧ w'.cell? qa = some (.string sv) ∧ F.answers w'.tape ∧ Q w') := hW
  clear hp hpb hW
  have hsw : IntKind.u32.wrap (q + -62135596800) = s := by rw [wrap_u32]; exact hs
  have hs0 : 0 ≤ s := by omega
  have hs1 : s < 4294967296 := by omega
  have hu0 : 0 ≤ u := by omega
  have hu1 : u < 4294967296 := by omega
  clear hs hu
  have k0 := hw.cell 0
  have k1 := hw.cell 1
  have f1 := hw.free 1
  have hwl := hw.lt
  simp at k0 k1
  have HW : Hid (Blk w wb [.pointer (some ⟨c, 0, none⟩), .int .i64 recs] 48) := hw
  clear hw
  go_enter Ybaf.func14, Ybaf.ntmps14
  go_wp2_with (first | (at_make; refine wpList_make_own _ rfl _ _ 22 rfl (w.heap.size + 1) 5 i0 _ 1 Ybaf.underlying22 hi hz0 hz1 .i64 .i64 _ (16 + m) rfl rfl (by omega) (by rw [hz2]; omega) (by unfold maxLen; omega) (by simp) ?_; intro w1 hown1 hgrow1))
  have R1 : Hid (Rec w wb c recs r q 0 [] (.slice (some ⟨w.heap.size + 1, 0, none⟩) 0 (16 + m)) w1) := Rec.made HW.out (by simpa using hown1) hgrow1
  obtain ⟨t0, t1, t2⟩ := R1.out.cells
  clear hown1 hgrow1 k0 k1 f1
  go_region_held3 (fun w' => w'.cell? ⟨w.heap.size, 0, none⟩ = some (.int .u64 r) ∧ w'.cell? ⟨w.heap.size, 1, none⟩ = some (.int .i64 q) ∧ w'.cell? ⟨w.heap.size, 2, none⟩ = some (.pointer none)) (first | go_keep | exact (R1.out.drew.step hf2).cells | exact R3.cells) ((first | (go_at_call 27; refine (unix_any r q _ (by omega) hq0 hq1).mono ?_; rintro e w2 ⟨rfl, hf2⟩) | (go_at_call 19; refine (au32_rec 4 _ (R1.out.drew.step hf2) rfl (by omega) (by omega) (by omega)).mono ?_; rintro e w3 ⟨g3, cap3, rfl, R3⟩)))
  have R3' : Hid (Rec w wb c recs r q 4 ([] ++ le32 s) (.slice (some ⟨g3, 0, none⟩) 4 cap3) w3) := R3
  clear t0 t1 t2 hf2 R1 R3
  obtain ⟨t0, t1, t2⟩ := R3'.out.cells
  go_wp2
  go_region_held3 (fun w' => w'.cell? ⟨w.heap.size, 0, none⟩ = some (.int .u64 r) ∧ w'.cell? ⟨w.heap.size, 1, none⟩ = some (.int .i64 q) ∧ w'.cell? ⟨w.heap.size, 2, none⟩ = some (.pointer none)) (first | go_keep | exact (R3'.out.drew.step hf4).cells | exact R5.cells) ((first | (go_at_call 28; refine (nano_any r q _ (by omega)).mono ?_; rintro e w4 ⟨rfl, hf4⟩) | (go_at_call 19; refine (au32_rec 8 _ (R3'.out.drew.step hf4) rfl (by omega) (by omega) (by omega)).mono ?_; rintro e w5 ⟨g5, cap5, rfl, R5⟩)))
  have R5' : Hid (Rec w wb c recs r q 8 (([] ++ le32 s) ++ le32 u) (.slice (some ⟨g5, 0, none⟩) 8 cap5) w5) := R5
  clear t0 t1 t2 hf4 R3' R5 huw hsw
  go_wp2_with fail
  refine (au32_rec 12 (m : Int) R5'.out rfl (by omega) (by omega) (by omega)).mono ?_
  rintro e w6 ⟨g6, cap6, rfl, R6⟩
  have R6' : Hid (Rec w wb c recs r q 12 ((([] ++ le32 s) ++ le32 u) ++ le32 m) (.slice (some ⟨g6, 0, none⟩) 12 cap6) w6) := R6
  clear R5' R6
  go_wp2_with fail
  refine (au32_rec 16 (m : Int) R6'.out rfl (by omega) (by omega) (by omega)).mono ?_
  rintro e w7 ⟨g7, cap7, rfl, R7⟩
  have R7' : Hid (Rec w wb c recs r q 16 (((([] ++ le32 s) ++ le32 u) ++ le32 m) ++ le32 m) (.slice (some ⟨g7, 0, none⟩) 16 cap7) w7) := R7
  clear R6' R7
  have j0 := R7'.out.wr.cell 0
  simp at j0
  have hsz7 := R7'.out.tb.lt
  have HS7 : Hid (Src w7 ap m cap (cb P)) := HP.out.fr R7'.out.fr (fun hm0 ad had => by simpa using HB.out hm0 ad had)
  go_wp2_with fail
  go_region_held3 (fun w' => w'.cell? ⟨wb, 0, none⟩ = some (.pointer (some ⟨c, 0, none⟩))) (first | go_keep | exact (R7'.out.drew.app rfl hown9 hfr9).ptr | exact blk2_ptr hb10) ((first | (refine step_append_src (by rfl) (.tmp 60) (.tmp 61) (by rfl) (w.heap.size + 1) (.slice (some ⟨g7, 0, none⟩) 16 cap7) 16 (cb (((([] ++ le32 s) ++ le32 u) ++ le32 m) ++ le32 m)) (by simp [Act.eval]) R7'.out.own ap m cap (cb P) (by simp [Act.eval]) HS7.out (by omega) (by omega) (by exact hsz7) ?_; intro g9 cap9 w9 hown9 hfr9 hat9) | (go_at_call 22; refine (HC.out _ g9 cap9 (R7'.out.drew.app rfl hown9 hfr9).wr (R7'.out.drew.app rfl hown9 hfr9).fr (R7'.out.drew.app rfl hown9 hfr9).own).mono ?_; rintro e w10 ⟨⟨k10, rfl⟩, hb10, hs10, hF10, hQ⟩)))
  have c10 := hb10.cell 1
  simp at c10
  go_wp2_with fail
  have hq10 : (w10.alloc (.cells #[.iface 3 (.int .i64 ((recs : Int) + 1)), .iface 73 (.pointer (some qa))] 20)).cell? qa = some (.string sv) := by
    rw [World.cell?_alloc_lt _ _ _ (World.block_lt_of_cell? w10 qa hs10)]; exact hs10
  refine (errRec_any F w10.heap.size ((recs : Int) + 1) qa sv (w10.alloc (.cells #[.iface 3 (.int .i64 ((recs : Int) + 1)), .iface 73 (.pointer (some qa))] 20)) hF10 (Blk.new w10 [.iface 3 (.int .i64 ((recs : Int) + 1)), .iface 73 (.pointer (some qa))] 20) hq10).mono ?_
  rintro e w11 ⟨rfl, t, rfl⟩
  go_wp2
  go_ret
  refine ⟨_, w10, rfl, ?_, (((Fr.refl [] w10).alloc _).alloc _).drew, hQ⟩
  simp
end Go.Proofs.YbulkbjogFmt
