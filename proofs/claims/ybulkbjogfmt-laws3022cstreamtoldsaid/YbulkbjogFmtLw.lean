import Derived.Test.YbulkbjogFmtState
namespace Go.Proofs.YbulkbjogFmt
open Go.RowKit

/-- The writer has been handed T1, 'want' holds T2; the two share no memory; nothing older than w0's heap has turned. -/
def LW (w0 : World) (wb c g s recs : Nat) (T1 T2 : List Int) (v : Value) (w : World) : Prop :=
  ∃ n zs buf sent sv, PS w0 w wb c g s recs n zs buf sent sv ∧ sent ++ buf = T1 ∧ w.ownsRow w0.heap.size 5 1 v T2.length (cb T2) ∧ (∀ k, v.ownBlock = some k → k ∉ [wb, c, g, s] ∧ sv.ownBlock ≠ some k)

theorem LW.bel {w0 w : World} {wb c g s recs : Nat} {T1 T2 : List Int} {v : Value} (h : LW w0 wb c g s recs T1 T2 v w) : Below w0.heap.size w0 w := by
  obtain ⟨_, _, _, _, _, hp, _⟩ := h
  exact hp.bel

theorem LW.wr {w0 w : World} {wb c g s recs : Nat} {T1 T2 : List Int} {v : Value} (h : LW w0 wb c g s recs T1 T2 v w) : w.cell? ⟨wb, 1, none⟩ = some (.int .i64 recs) := by
  obtain ⟨_, _, _, _, _, hp, _⟩ := h
  simpa using hp.wr.cell 1

theorem LW.fr0 {w0 a b : World} {wb c g s recs : Nat} {T1 T2 : List Int} {v : Value} (h : LW w0 wb c g s recs T1 T2 v a) (hf : Fr [] a b) : LW w0 wb c g s recs T1 T2 v b := by
  obtain ⟨n, zs, buf, sent, sv, hp, hT, ho, hv⟩ := h
  exact ⟨n, zs, buf, sent, sv, hp.fr hf (by simp) (by simp) (by simp) (by simp) (by simp) (by simp), hT, hf.owns ho (by simp), hv⟩

/-- 'want' has grown. -/
theorem LW.want {w0 a b : World} {wb c g s recs m n' gv cv : Nat} {T1 T2 M : List Int} {v : Value} (h : LW w0 wb c g s recs T1 T2 v a) (hn : T2.length + m = n') (hM : M.length = m)
    (h1 : b.ownsRow w0.heap.size 5 1 (.slice (some ⟨gv, 0, none⟩) (T2.length + m) cv) (T2.length + m) (cb T2 ++ cb M)) (h2 : Fr v.ownBlock.toList a b) (h3 : v.ownBlock = some gv ∨ a.heap.size ≤ gv) :
    LW w0 wb c g s recs T1 (T2 ++ M) (.slice (some ⟨gv, 0, none⟩) n' cv) b := by
  subst hn
  obtain ⟨n, zs, buf, sent, sv, hp, hT, ho, hv⟩ := h
  have hx : ∀ x, x ∈ v.ownBlock.toList → x ∉ [wb, c, g, s] ∧ sv.ownBlock ≠ some x := fun x hx => hv x (by simpa using hx)
  have no : ∀ y, y ∈ [wb, c, g, s] → y ∉ v.ownBlock.toList := fun y hy hm => (hx y hm).1 hy
  have l1 := hp.wr.lt; have l2 := hp.sk.bw.st.lt; have l3 := hp.sk.bw.buf.lt; have l4 := hp.sk.sk.lt
  refine ⟨n, zs, buf, sent, sv, hp.fr h2 (no _ (by simp)) (no _ (by simp)) (no _ (by simp)) (no _ (by simp)) (fun k hk hm => (hx k hm).2 hk) (fun x hm => (ho.lt x (by simpa using hm)).1), hT, ?_, ?_⟩
  · rw [cb_append, List.length_append, hM]; exact h1
  · intro k hk
    simp [Value.ownBlock] at hk
    subst hk
    rcases h3 with h3 | h3
    · exact hv gv h3
    · refine ⟨by simp; omega, fun e => ?_⟩
      have := (hp.sk.own.lt gv e).2
      omega

theorem lw_le32 {w0 a : World} {wb c g s recs n' : Nat} {T1 T2 : List Int} {v : Value} (x : Int) (h : LW w0 wb c g s recs T1 T2 v a) (hn : T2.length + 4 = n') (hle : n' ≤ 900000000) (hx0 : 0 ≤ x) (hx1 : x < 4294967296) :
    Calls Ybaf.prog 12 #[v, .int .u32 x] a fun e b => ∃ gv cv, e = .returned (.slice (some ⟨gv, 0, none⟩) n' cv) ∧ LW w0 wb c g s recs T1 (T2 ++ le32 x) (.slice (some ⟨gv, 0, none⟩) n' cv) b := by
  have hb := h.bel.size
  have ho : a.ownsRow w0.heap.size 5 1 v T2.length (cb T2) := by obtain ⟨_, _, _, _, _, _, _, ho, _⟩ := h; exact ho
  refine (le32_any v T2.length (cb T2) x w0.heap.size a hx0 hx1 ho (by omega) hb).mono ?_
  rintro e b ⟨gv, cv, rfl, h1, h2, h3⟩
  exact ⟨gv, cv, by rw [hn], h.want hn rfl h1 h2 h3⟩

theorem lw_packet {w0 a : World} {wb c g s recs : Nat} {T1 T2 : List Int} {v : Value} (h : LW w0 wb c g s recs T1 T2 v a) (r m cap : Nat) (q sx ux : Int) (ap : Option Addr) (P : List Int)
    (hs : (q + -62135596800) % 4294967296 = sx) (hu : ((r / 1000 : Nat) : Int) = ux) (hr : r < 1000000000) (hq0 : -10000000000 ≤ q) (hq1 : q ≤ 10000000000) (hm : m ≤ 65535) (hrecs : recs ≤ 1000000)
    (hp : Src a ap m cap (cb P)) (hpb : 0 < m → ∀ ad, ap = some ad → ad.block < w0.heap.size) (htot : T1.length + m ≤ 800000000) :
    Calls Ybaf.prog 14 #[.pointer (some ⟨wb, 0, none⟩), .agg #[.int .u64 r, .int .i64 q, .pointer none], .slice ap m cap] a fun e b => e = .returned .nilIface ∧ LW w0 wb c g s (recs + 1) (T1 ++ recB sx ux m P) T2 v b ∧ ∀ x cs, Blk a x cs 40 → Blk b x cs 40 := by
  obtain ⟨n, zs, buf, sent, sv, hps, hT, ho, hv⟩ := h
  refine (packet_sink w0 a wb c g s recs n zs buf sent sv hps r m cap q sx ux ap P hs hu hr hq0 hq1 hm hrecs hp (fun h0 ad had => by have := hpb h0 ad had; have := hps.lwb; omega) (by rw [hT]; exact htot) (T1 ++ recB sx ux m P) (by rw [hT])).mono ?_
  rintro e b ⟨rfl, n', zs', buf', sent', sv', hps', hT', hW⟩
  refine ⟨rfl, ⟨n', zs', buf', sent', sv', hps', hT', hW.fr.owns ho (fun k hk hm => ?_), fun k hk => ⟨(hv k hk).1, ?_⟩⟩, fun x cs hx => hx.fr hW.fr (fun hm => ?_)⟩
  · rcases List.mem_append.1 hm with hm | hm
    · exact (hv k hk).1 hm
    · exact (hv k hk).2 (by simpa using hm)
  · rcases hW.at' with e | ⟨j, e, hj⟩
    · rw [e]; exact (hv k hk).2
    · rw [e]; intro e'
      have e2 : j = k := by simpa using e'
      have := (ho.lt k hk).2
      omega
  · rcases List.mem_append.1 hm with hm | hm
    · simp at hm
      rcases hm with rfl | rfl | rfl | rfl
      · exact hx.ne hps.wr (by decide) rfl
      · exact hx.ne hps.sk.bw.st (by decide) rfl
      · exact hx.ne hps.sk.bw.buf (by decide) rfl
      · exact hx.ne hps.sk.sk (by decide) rfl
    · have hs := hps.sk.own.2
      simp at hm
      rcases hs with ⟨e, _⟩ | ⟨y, cap', cur, e, _, hh, _⟩
      · rw [e] at hm; simp [Value.ownBlock] at hm
      · rw [e] at hm
        have e2 : y = x := by simpa [Value.ownBlock] using hm
        rw [e2] at hh
        unfold Blk at hx
        rw [hx] at hh
        simp at hh

/-- Behind Flush the sink holds all that was handed over. -/
theorem lw_flush {w0 a : World} {wb c g s recs : Nat} {T1 T2 : List Int} {v : Value} (h : LW w0 wb c g s recs T1 T2 v a) (htot : T1.length ≤ 800000000) :
    Calls Ybaf.prog 15 #[.pointer (some ⟨wb, 0, none⟩)] a fun e b => e = .returned .nilIface ∧ Below w0.heap.size w0 b ∧ b.ownsRow w0.heap.size 5 1 v T2.length (cb T2) ∧ ∃ sv, b.cell? ⟨s, 0, none⟩ = some sv ∧ b.ownsRow w0.heap.size 5 1 sv T1.length (cb T1) := by
  obtain ⟨n, zs, buf, sent, sv, hps, hT, ho, hv⟩ := h
  refine (pflush_sink w0 a wb c g s recs n zs buf sent sv hps (by rw [hT]; exact htot)).mono ?_
  rintro e b ⟨rfl, zs', sv', hps', hW⟩
  refine ⟨rfl, hps'.bel, hW.fr.owns ho (fun k hk hm => ?_), sv', by simpa using hps'.sk.sk.cell 0, by rw [← hT]; exact hps'.sk.own⟩
  rcases List.mem_append.1 hm with hm | hm
  · exact (hv k hk).1 hm
  · exact (hv k hk).2 (by simpa using hm)

/-- The start: the header has been handed over; 'want' is nil. -/
theorem LW.start {w w1 : World} {wb c g : Nat} {zs : List Value} {lt : Int} (hwb : Blk w1 wb [.pointer (some ⟨c, 0, none⟩), .int .i64 0] 48) (hB : BW w1 c g .nilIface 24 (.iface 30 (.pointer (some ⟨w.heap.size, 0, none⟩))) zs) (hz : zs.take 24 = cb (hdr lt))
    (hF : Fr [] (w.alloc (.cells #[.slice none 0 0] 32)) w1) (h1 : (w.alloc (.cells #[.slice none 0 0] 32)).heap.size ≤ wb) (h2 : (w.alloc (.cells #[.slice none 0 0] 32)).heap.size ≤ c) (h3 : (w.alloc (.cells #[.slice none 0 0] 32)).heap.size ≤ g) :
    LW w wb c g w.heap.size 0 (hdr lt) [] (.slice none 0 0) w1 := by
  simp only [World.size_alloc] at h1 h2 h3
  have hsz := hF.size
  simp only [World.size_alloc] at hsz
  have hf : Fr [] w w1 := ((Fr.refl [] w).alloc _).andThen hF (fun x hx => by cases hx)
  refine ⟨24, zs, hdr lt, [], .slice none 0 0, ⟨hwb, ⟨hB, hz, (Blk.new w [.slice none 0 0] 32).fr hF (by simp), World.ownsRow_nil _ _ _ _, by simp [Value.ownBlock], by simp [Value.ownBlock], by simp [Value.ownBlock], by omega⟩, by omega, hf.below (Nat.le_refl _) (fun _ hx => by cases hx), by omega, by omega, by omega, Nat.le_refl _, by simp [Value.ownBlock]⟩, by simp, World.ownsRow_nil _ _ _ _, fun k hk => by simp [Value.ownBlock] at hk⟩

/-- Time's parts. -/
theorem time_parts (d : Int) (h0 : -9223372036854775808 ≤ d) (h1 : d ≤ 9223372036854775807) : ∃ (t s q : Int) (r : Nat), d.tdiv 1000000000 = t ∧ d.tmod 1000000000 = s ∧ -9223372037 ≤ t ∧ t ≤ 9223372037 ∧ -1000000000 < s ∧ s < 1000000000 ∧
    ((s < 0 ∧ q = t - 1 ∧ (r : Int) = s + 1000000000) ∨ (0 ≤ s ∧ q = t ∧ (r : Int) = s)) := by
  have e := Int.mul_tdiv_add_tmod d 1000000000
  have hb : -1000000000 < d.tmod 1000000000 ∧ d.tmod 1000000000 < 1000000000 := by
    constructor
    · have := Int.lt_tmod_of_pos d (show (0 : Int) < 1000000000 by decide); omega
    · exact Int.tmod_lt_of_pos d (by decide)
  by_cases hs : d.tmod 1000000000 < 0
  · exact ⟨_, _, d.tdiv 1000000000 - 1, (d.tmod 1000000000 + 1000000000).toNat, rfl, rfl, by omega, by omega, hb.1, hb.2, .inl ⟨hs, rfl, by omega⟩⟩
  · exact ⟨_, _, d.tdiv 1000000000, (d.tmod 1000000000).toNat, rfl, rfl, by omega, by omega, hb.1, hb.2, .inr ⟨by omega, rfl, by omega⟩⟩
end Go.Proofs.YbulkbjogFmt
