import Derived.Test.YbulkbjogFmtPFlush
import Derived.Test.YbulkbjogFmtFlush
import Derived.Test.YbulkbjogFmtIs
namespace Go.Proofs.YbulkbjogFmt
open Go.RowKit

theorem blk_made {w w1 : World} {base n : Nat} (h : w1.ownsRow base 5 1 (.slice (some ⟨w.heap.size, 0, none⟩) n n) n (madeCells (Value.int .u8 0).cells (n * 1)).toList) : Blk w1 w.heap.size (cb (List.replicate n 0)) 5 := by
  rcases h.2 with ⟨h, _⟩ | ⟨g', cap, cur, hv, _, hh, _, _, hsz, htk⟩
  · cases h
  · cases hv
    have e : cur.toList = cb (List.replicate n 0) := by
      have h1 : cur.toList.take (n * 1) = cur.toList := List.take_of_length_le (by simp [hsz])
      rw [h1] at htk
      rw [htk, Nat.mul_one]
      show (madeCells #[Value.int .u8 0] n).toList = _
      rw [toList_madeCells_one]
      simp [cb]
    unfold Blk
    rw [← e]
    simpa using hh

theorem cb_set (L : List Int) (i : Nat) (x : Int) : (cb L).set i (.int .u8 x) = cb (L.set i x) := by simp [cb, List.map_set]

theorem newErr_any (s : ByteArray) (w : World) :
    Calls Ybaf.prog 16 #[.string s] w fun e w' => e = .returned (.iface 73 (.pointer (some ⟨w.heap.size, 0, none⟩))) ∧ w' = w.alloc (.cells #[.string s] 75) := by
  go_enter Ybaf.func16, Ybaf.ntmps16
  go_wp2
  go_ret
  exact ⟨rfl, rfl⟩

theorem recB_length (s u : Int) (m : Nat) (P : List Int) : (recB s u m P).length = 16 + P.length := by
  simp [recB, le32]; omega

/-- Everything that LawS3022CFail has made, and that nothing older has turned: the pcap.Writer in wb, the bufio.Writer in c and g, the failing writer in f, its error in x. -/
structure FS (w0 w : World) (wb c g f x : Nat) (recs calls : Int) (err : Value) (n : Nat) : Prop where
  wr : Blk w wb [.pointer (some ⟨c, 0, none⟩), .int .i64 recs] 48
  bw : ∃ zs, BW w c g err n (.iface 51 (.pointer (some ⟨f, 0, none⟩))) zs
  fl : Blk w f [.iface 73 (.pointer (some ⟨x, 0, none⟩)), .int .i64 calls] 54
  er : Blk w x [.string ⟨#[122, 122]⟩] 75
  bel : Below w0.heap.size w0 w
  lwb : w0.heap.size ≤ wb
  lc : w0.heap.size ≤ c
  lg : w0.heap.size ≤ g
  lf : w0.heap.size ≤ f

theorem FS.fr {w0 a b : World} {wb c g f x : Nat} {recs calls : Int} {err : Value} {n : Nat} (h : FS w0 a wb c g f x recs calls err n) (hf : Fr [] a b) : FS w0 b wb c g f x recs calls err n := by
  obtain ⟨zs, hB⟩ := h.bw
  exact ⟨h.wr.fr hf (by simp), ⟨zs, hB.st.fr hf (by simp), hB.buf.fr hf (by simp), hB.len⟩, h.fl.fr hf (by simp), h.er.fr hf (by simp), h.bel.trans (hf.below h.bel.size (fun _ hx => by cases hx)), h.lwb, h.lc, h.lg, h.lf⟩

theorem FS.cell {w0 w : World} {wb c g f x : Nat} {recs calls : Int} {err : Value} {n : Nat} (h : FS w0 w wb c g f x recs calls err n) : w.cell? ⟨x, 0, none⟩ = some (.string ⟨#[122, 122]⟩) := by simpa using h.er.cell 0

theorem FS.cells {w0 w : World} {wb c g f x : Nat} {recs calls : Int} {err : Value} {n : Nat} (h : FS w0 w wb c g f x recs calls err n) : w.cell? ⟨wb, 1, none⟩ = some (.int .i64 recs) ∧ w.cell? ⟨f, 0, none⟩ = some (.iface 73 (.pointer (some ⟨x, 0, none⟩))) ∧ w.cell? ⟨f, 1, none⟩ = some (.int .i64 calls) := by
  have h0 := h.wr.cell 1
  have h1 := h.fl.cell 0
  have h2 := h.fl.cell 1
  simp at h0 h1 h2
  exact ⟨h0, h1, h2⟩

/-- One packet of at most 4056 octets: it fits beside the header. -/
theorem packet_fits (w0 w : World) (wb c g f x : Nat) (m cap : Nat) (ap : Option Addr) (P : List Int) (h : FS w0 w wb c g f x 0 0 .nilIface 24) (hp : Src w ap m cap (cb P)) (hpb : 0 < m → ∀ ad, ap = some ad → ad.block ≠ wb) (hm : m ≤ 4056) :
    Calls Ybaf.prog 14 #[.pointer (some ⟨wb, 0, none⟩), .agg #[.int .u64 0, .int .i64 0, .pointer none], .slice ap m cap] w fun e w' => e = .returned .nilIface ∧ FS w0 w' wb c g f x 1 0 .nilIface (40 + m) := by
  have hP : P.length = m := by have := hp.length; rwa [cb_length] at this
  refine packet_any wb c 0 0 m cap 0 _ _ ap w rfl rfl (by omega) (by omega) (by omega) (by omega) (by omega) h.wr P hp hpb (fun w' => FS w0 w' wb c g f x 1 0 .nilIface (40 + m)) ?_
  intro w1 g1 cap1 hwr hfr hown
  obtain ⟨zs, hB⟩ := h.bw
  have n1 := h.wr.ne hB.st (by decide)
  have n2 := h.wr.ne hB.buf (by decide)
  have n3 := h.fl.ne h.wr (by decide)
  have n4 := h.er.ne h.wr (by decide)
  have n5 := h.fl.ne hB.st (by decide)
  have n6 := h.fl.ne hB.buf (by decide)
  have n7 := h.er.ne hB.st (by decide)
  have n8 := h.er.ne hB.buf (by decide)
  have hB1 : BW w1 c g .nilIface 24 (.iface 51 (.pointer (some ⟨f, 0, none⟩))) zs := ⟨hB.st.fr hfr (by simpa using Ne.symm n1), hB.buf.fr hfr (by simpa using Ne.symm n2), hB.len⟩
  refine (write_fits c g _ 24 (16 + m) cap1 _ _ zs w1 hB1 (by omega) (by omega) (by rw [cb_length, recB_length, hP]) (fun _ => ⟨_, rfl, hown.cells rfl⟩) (cb_one _)).mono ?_
  rintro e w2 ⟨rfl, hB2, hF2⟩
  have hwr2 := hwr.fr hF2 (by simp [n1, n2])
  have hF : Fr [wb, c, g] w w2 := (hfr.mono (by simp)).andThen hF2 (fun y hy => .inl (by simp at hy; rcases hy with hy | hy <;> simp [hy]))
  refine ⟨⟨_, rfl⟩, hwr2, ⟨by simpa using hwr2, ⟨_, by simpa [Nat.add_assoc, show 24 + (16 + m) = 40 + m by omega] using hB2⟩, h.fl.fr hF (by simp [n3, n5, n6]), h.er.fr hF (by simp [n4, n7, n8]), ?_, h.lwb, h.lc, h.lg, h.lf⟩⟩
  exact h.bel.trans (hF.below h.bel.size (fun y hy => by have := h.lwb; have := h.lc; have := h.lg; simp at hy; rcases hy with hy | hy | hy <;> omega))

/-- One packet of more than 4056 octets: refused, the failing writer tried once. -/
theorem packet_over (F : Stop.Interp) (w0 w : World) (wb c g f x : Nat) (m cap : Nat) (ap : Option Addr) (P : List Int) (h : FS w0 w wb c g f x 0 0 .nilIface 24) (hT : F.answers w.tape) (hp : Src w ap m cap (cb P)) (hpb : 0 < m → ∀ ad, ap = some ad → ad.block ≠ wb) (hm : 4056 < m) (hm1 : m ≤ 5000) :
    Calls Ybaf.prog 14 #[.pointer (some ⟨wb, 0, none⟩), .agg #[.int .u64 0, .int .i64 0, .pointer none], .slice ap m cap] w fun e w' => ∃ k n, e = .returned (.iface 86 (.pointer (some ⟨k, 0, none⟩))) ∧ w'.cell? ⟨k, 1, none⟩ = some (.iface 73 (.pointer (some ⟨x, 0, none⟩))) ∧ FS w0 w' wb c g f x 1 1 (.iface 73 (.pointer (some ⟨x, 0, none⟩))) n ∧ F.answers w'.tape := by
  have hP : P.length = m := by have := hp.length; rwa [cb_length] at this
  refine (packet_err F ⟨x, 0, none⟩ ⟨#[122, 122]⟩ wb c 0 0 m cap 0 _ _ ap w rfl rfl (by omega) (by omega) (by omega) (by omega) (by omega) h.wr P hp hpb (fun w' => ∃ n, FS w0 w' wb c g f x 1 1 (.iface 73 (.pointer (some ⟨x, 0, none⟩))) n ∧ F.answers w'.tape) ?_).mono ?_
  · intro w1 g1 cap1 hwr hfr hown
    obtain ⟨zs, hB⟩ := h.bw
    have n1 := h.wr.ne hB.st (by decide)
    have n2 := h.wr.ne hB.buf (by decide)
    have n3 := h.fl.ne h.wr (by decide)
    have n4 := h.er.ne h.wr (by decide)
    have n5 := h.fl.ne hB.st (by decide)
    have n6 := h.fl.ne hB.buf (by decide)
    have n7 := h.er.ne hB.st (by decide)
    have n8 := h.er.ne hB.buf (by decide)
    have n9 := h.er.ne h.fl (by decide)
    have hB1 : BW w1 c g .nilIface 24 (.iface 51 (.pointer (some ⟨f, 0, none⟩))) zs := ⟨hB.st.fr hfr (by simpa using Ne.symm n1), hB.buf.fr hfr (by simpa using Ne.symm n2), hB.len⟩
    have hmc : 16 + m ≤ cap1 := by
      rcases hown.2 with ⟨h1, _⟩ | ⟨_, _, _, h1, _, _, h2, _⟩
      · cases h1
      · cases h1; exact h2
    refine (write_over c g f 24 (16 + m) cap1 ⟨x, 0, none⟩ ⟨g1, 0, none⟩ _ zs w1 hB1 (by omega) (by omega) (by omega) (by omega) hmc (by rw [cb_length, recB_length, hP]) (hown.cells rfl) (cb_one _) (h.fl.fr hfr (by simpa using n3))).mono ?_
    rintro e w2 ⟨r2, n', zs', rfl, hB2, hf2, hF2⟩
    have hwr2 := hwr.fr hF2 (by simp [n1, n2, Ne.symm n3])
    have hF : Fr [wb, c, g, f] w w2 := (hfr.mono (by simp)).andThen hF2 (fun y hy => .inl (by simp at hy; rcases hy with hy | hy | hy <;> simp [hy]))
    have hFS : FS w0 w2 wb c g f x 1 1 (.iface 73 (.pointer (some ⟨x, 0, none⟩))) n' := ⟨by simpa using hwr2, ⟨_, hB2⟩, hf2, h.er.fr hF (by simp [n4, n7, n8, n9]), h.bel.trans (hF.below h.bel.size (fun y hy => by have := h.lwb; have := h.lc; have := h.lg; have := h.lf; simp at hy; rcases hy with hy | hy | hy | hy <;> omega)), h.lwb, h.lc, h.lg, h.lf⟩
    have hT2 : F.answers w2.tape := by rw [hF.tape]; exact hT
    exact ⟨⟨r2, rfl⟩, hwr2, hFS.cell, hT2, n', hFS, hT2⟩
  · rintro e w' ⟨k, w10, rfl, hc, hf, n, hFS, hT10⟩
    exact ⟨k, n, rfl, hc, hFS.fr hf, by rw [hf.tape]; exact hT10⟩

theorem flush_first (F : Stop.Interp) (w0 w : World) (wb c g f x n : Nat) (h : FS w0 w wb c g f x 1 0 .nilIface n) (hT : F.answers w.tape) (hn : 0 < n) (hn1 : n ≤ 4096) :
    Calls Ybaf.prog 15 #[.pointer (some ⟨wb, 0, none⟩)] w fun e w' => ∃ k, e = .returned (.iface 86 (.pointer (some ⟨k, 0, none⟩))) ∧ w'.cell? ⟨k, 1, none⟩ = some (.iface 73 (.pointer (some ⟨x, 0, none⟩))) ∧ FS w0 w' wb c g f x 1 1 (.iface 73 (.pointer (some ⟨x, 0, none⟩))) n := by
  refine (pflush_err F ⟨x, 0, none⟩ ⟨#[122, 122]⟩ wb c _ w h.wr (fun w' => FS w0 w' wb c g f x 1 1 (.iface 73 (.pointer (some ⟨x, 0, none⟩))) n) ?_).mono ?_
  · obtain ⟨zs, hB⟩ := h.bw
    refine (flush_fail c g f n ⟨x, 0, none⟩ zs w hB hn hn1 h.fl).mono ?_
    rintro e w2 ⟨rfl, hB2, hf2, hF2⟩
    have hFS : FS w0 w2 wb c g f x 1 1 (.iface 73 (.pointer (some ⟨x, 0, none⟩))) n := ⟨h.wr.fr hF2 (by simp [h.wr.ne hB.st (by decide), h.wr.ne h.fl (by decide)]), ⟨_, hB2⟩, hf2, h.er.fr hF2 (by simp [h.er.ne hB.st (by decide), h.er.ne h.fl (by decide)]), h.bel.trans (hF2.below h.bel.size (fun y hy => by have := h.lc; have := h.lf; simp at hy; rcases hy with hy | hy <;> omega)), h.lwb, h.lc, h.lg, h.lf⟩
    exact ⟨rfl, hFS.cell, by rw [hF2.tape]; exact hT, hFS⟩
  · rintro e w' ⟨k, w10, rfl, hc, hf, hFS⟩
    exact ⟨k, rfl, hc, hFS.fr hf⟩

theorem flush_again (F : Stop.Interp) (w0 w : World) (wb c g f x n : Nat) (h : FS w0 w wb c g f x 1 1 (.iface 73 (.pointer (some ⟨x, 0, none⟩))) n) (hT : F.answers w.tape) :
    Calls Ybaf.prog 15 #[.pointer (some ⟨wb, 0, none⟩)] w fun e w' => ∃ k, e = .returned (.iface 86 (.pointer (some ⟨k, 0, none⟩))) ∧ w'.cell? ⟨k, 1, none⟩ = some (.iface 73 (.pointer (some ⟨x, 0, none⟩))) ∧ FS w0 w' wb c g f x 1 1 (.iface 73 (.pointer (some ⟨x, 0, none⟩))) n := by
  refine (pflush_err F ⟨x, 0, none⟩ ⟨#[122, 122]⟩ wb c _ w h.wr (fun w' => FS w0 w' wb c g f x 1 1 (.iface 73 (.pointer (some ⟨x, 0, none⟩))) n) ?_).mono ?_
  · obtain ⟨zs, hB⟩ := h.bw
    refine (flush_err c g n 73 _ _ zs w hB).mono ?_
    rintro e w2 ⟨rfl, rfl⟩
    exact ⟨rfl, h.cell, hT, h⟩
  · rintro e w' ⟨k, w10, rfl, hc, hf, hFS⟩
    exact ⟨k, rfl, hc, hFS.fr hf⟩

set_option maxRecDepth 100000 in
set_option maxHeartbeats 1600000 in
theorem cfail_any (F : Stop.Interp) (n : Nat) (b : Int) (w : World) (hF : F.answers w.tape) (hn : n ≤ 255) :
    Calls Ybaf.prog 6 #[.int .u8 n, .int .u8 b] w fun e w' => e = .returned (.bool true) ∧ Below w.heap.size w w' := by
  obtain ⟨i0, hi, hz0, hz1, hz2⟩ := info_parts Ybaf.info5
  have hl40 : n % 40 < 40 := Nat.mod_lt _ (by omega)
  go_enter Ybaf.func6, Ybaf.ntmps6
  go_wp2_with (first | (at_make; refine wpList_make_full _ rfl _ _ 22 rfl w.heap.size 5 i0 _ 1 Ybaf.underlying22 hi hz0 hz1 .i64 .i64 _ _ (4040 + n % 40) rfl rfl (by omega) (by omega) (by rw [hz2]; omega) (by unfold maxLen; omega) (Nat.le_refl _) ?_; intro w1 hown1 hgrow1))
  have hb1 := blk_made hown1
  have hf1 : Fr [] w w1 := (Fr.refl [] w).grown hgrow1 (fun k hk => by cases hk)
  clear hown1 hgrow1
  go_loopw [7] (fun i wr => ∃ (k : Nat) (L : List Int), k ≤ 4040 + n % 40 ∧ i = .int .i64 k ∧ L.length = 4040 + n % 40 ∧ Blk wr w.heap.size (cb L) 5 ∧ Fr [] w wr) (fun i _ => 4040 + n % 40 - (intOf i).toNat)
  case atStart => exact ⟨0, _, by omega, rfl, by simp, hb1, hf1⟩
  case round =>
    obtain ⟨k, L, hk, rfl, hL, hb, hf⟩ := hrel
    clear hb1 hf1
    by_cases hlt : k < 4040 + n % 40
    · have hc := hb.cell k
      have hz := hb.free k
      rw [List.getElem?_eq_getElem (by rw [cb_length]; omega)] at hc
      have HB : Hid (Blk wr w.heap.size (cb L) 5) := hb
      clear hb
      go_wp2
      go_roundw
      case rel => exact ⟨k + 1, L.set k b, by omega, by go_num, by simpa using hL, by rw [← cb_set]; exact HB.out.set k _, hf.setCell (.inr (Nat.le_refl _)) _⟩
      case measure => simp [intOf]; omega
    · go_wp2_with fail
      refine (newErr_any _ _).mono ?_
      rintro e w2 ⟨rfl, rfl⟩
      go_wp2_with fail
      refine (newWriter_any 51 (.inr rfl) ⟨wr.heap.size + 1, 0, none⟩ 1 _ (by omega) (by omega)).mono ?_
      rintro e w3 ⟨wb, c, g, zs, rfl, hwb, hB, _, hF3, hwb0, hc0, hg0⟩
      simp only [World.size_alloc] at hwb0 hc0 hg0
      have hE3 : Blk w3 wr.heap.size [.string ⟨#[122, 122]⟩] 75 := ((Blk.new wr _ _).alloc _).fr hF3 (by simp)
      have hf3 : Blk w3 (wr.heap.size + 1) [.iface 73 (.pointer (some ⟨wr.heap.size, 0, none⟩)), .int .i64 0] 54 := by
        have := Blk.new (wr.alloc (.cells #[.string ⟨#[122, 122]⟩] 75)) [.iface 73 (.pointer (some ⟨wr.heap.size, 0, none⟩)), .int .i64 0] 54
        rw [World.size_alloc] at this
        exact this.fr hF3 (by simp)
      have hp3 : Blk w3 w.heap.size (cb L) 5 := ((hb.alloc _).alloc _).fr hF3 (by simp)
      have hFr3 : Fr [] w w3 := ((hf.alloc _).alloc _).andThen hF3 (fun x hx => by cases hx)
      have hwr := hb.lt
      have HK : Hid (FS w w3 wb c g (wr.heap.size + 1) wr.heap.size 0 0 .nilIface 24) := ⟨hwb, ⟨_, hB⟩, hf3, hE3, hFr3.below (Nat.le_refl _) (fun _ hx => by cases hx), by omega, by omega, by omega, by omega⟩
      have HS : Hid (Src w3 (some ⟨w.heap.size, 0, none⟩) (4040 + n % 40) (4040 + n % 40) (cb L)) := .inr ⟨_, rfl, by rw [cb_length]; exact hL, World.news_of_block hp3, cb_one _⟩
      have hT3 : Hid (F.answers w3.tape) := by
        show F.answers w3.tape
        rw [hFr3.tape]; exact hF
      clear hwb hB hE3 hf3 hp3 hFr3 hF3 hf hb
      by_cases hln : 4040 + n % 40 ≤ 4056
      · go_wp2_with fail
        refine (packet_fits w w3 wb c g _ _ _ _ _ L HK.out HS.out (fun _ ad had => by cases had; simp; omega) hln).mono ?_
        rintro e w4 ⟨rfl, hS4⟩
        have HS4 : Hid (FS w w4 wb c g (wr.heap.size + 1) wr.heap.size 1 0 .nilIface (40 + (4040 + n % 40))) := hS4
        obtain ⟨d1, d2, d3⟩ := hS4.cells
        clear hS4
        go_wp2_with fail
        refine (flush_first F w w4 wb c g _ _ _ HS4.out (by rw [HS4.out.bel.tape]; exact hF) (by omega) (by omega)).mono ?_
        rintro e w5 ⟨k5, rfl, hc5, hS5⟩
        obtain ⟨e1, e2, e3⟩ := hS5.cells
        have HS5 : Hid (Below w.heap.size w w5) := hS5.bel
        clear hS5 HS4 d1 d2 d3
        go_wp2_with (go_at_call 17; refine (is_wrap_same k5 _ _ hc5).mono ?_; rintro e w' ⟨rfl, rfl⟩)
        go_ret
        exact ⟨rfl, HS5.out⟩
      · go_wp2_with fail
        refine (packet_over F w w3 wb c g _ _ _ _ _ L HK.out hT3.out HS.out (fun _ ad had => by cases had; simp; omega) (by omega) (by omega)).mono ?_
        rintro e w4 ⟨k4, n4, rfl, hc4, hS4, hT4⟩
        have HS4 : Hid (FS w w4 wb c g (wr.heap.size + 1) wr.heap.size 1 1 (.iface 73 (.pointer (some ⟨wr.heap.size, 0, none⟩))) n4) := hS4
        obtain ⟨d1, d2, d3⟩ := hS4.cells
        clear hS4 hT4
        go_wp2_with (go_at_call 17; refine (is_wrap_same k4 _ _ hc4).mono ?_; rintro e w' ⟨rfl, rfl⟩)
        refine (flush_again F w _ wb c g _ _ _ HS4.out (by rw [HS4.out.bel.tape]; exact hF)).mono ?_
        rintro e w5 ⟨k5, rfl, hc5, hS5⟩
        obtain ⟨e1, e2, e3⟩ := hS5.cells
        have HS5 : Hid (Below w.heap.size w w5) := hS5.bel
        clear hS5 HS4 d1 d2 d3
        go_wp2_with (go_at_call 17; refine (is_wrap_same k5 _ _ hc5).mono ?_; rintro e w' ⟨rfl, rfl⟩)
        go_ret
        exact ⟨rfl, HS5.out⟩
end Go.Proofs.YbulkbjogFmt
