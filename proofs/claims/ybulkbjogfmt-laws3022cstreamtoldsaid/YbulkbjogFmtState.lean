import Derived.Test.YbulkbjogFmtWSink
import Derived.Test.YbulkbjogFmtPFlush
namespace Go.Proofs.YbulkbjogFmt
open Go.RowKit

/-- Everything behind the pcap.Writer over the sink: nothing older than w0's heap has turned. -/
structure PS (w0 w : World) (wb c g s recs n : Nat) (zs : List Value) (buf sent : List Int) (sv : Value) : Prop where
  wr : Blk w wb [.pointer (some ⟨c, 0, none⟩), .int .i64 recs] 48
  sk : SK w c g s w0.heap.size n zs buf sent sv
  hn : n ≤ 4096
  bel : Below w0.heap.size w0 w
  lwb : w0.heap.size ≤ wb
  lc : w0.heap.size ≤ c
  lg : w0.heap.size ≤ g
  ls : w0.heap.size ≤ s
  nw : sv.ownBlock ≠ some wb

/-- From a to b: only the writer's own blocks and new ones have turned. -/
structure Went (wb c g s : Nat) (a : World) (sv : Value) (b : World) (sv' : Value) : Prop where
  fr : Fr ([wb, c, g, s] ++ sv.ownBlock.toList) a b
  at' : sv'.ownBlock = sv.ownBlock ∨ ∃ k, sv'.ownBlock = some k ∧ a.heap.size ≤ k

theorem PS.bel' {w0 w b : World} {wb c g s recs n : Nat} {zs : List Value} {buf sent : List Int} {sv : Value} (h : PS w0 w wb c g s recs n zs buf sent sv) (hf : Fr ([wb, c, g, s] ++ sv.ownBlock.toList) w b) : Below w0.heap.size w0 b := by
  refine h.bel.trans (hf.below h.bel.size (fun x hx => ?_))
  have h1 := h.lwb; have h2 := h.lc; have h3 := h.lg; have h4 := h.ls
  rcases List.mem_append.1 hx with hx | hx
  · simp at hx; rcases hx with hx | hx | hx | hx <;> omega
  · exact (h.sk.own.lt x (by simpa using hx)).1

/-- PS stands while blocks that are none of its own turn. -/
theorem PS.fr {w0 a b : World} {wb c g s recs n : Nat} {zs : List Value} {buf sent : List Int} {sv : Value} {S : List Nat} (h : PS w0 a wb c g s recs n zs buf sent sv) (hf : Fr S a b) (h1 : wb ∉ S) (h2 : c ∉ S) (h3 : g ∉ S) (h4 : s ∉ S) (h5 : ∀ k, sv.ownBlock = some k → k ∉ S) (h6 : ∀ x, x ∈ S → w0.heap.size ≤ x) :
    PS w0 b wb c g s recs n zs buf sent sv :=
  ⟨h.wr.fr hf h1, ⟨⟨h.sk.bw.st.fr hf h2, h.sk.bw.buf.fr hf h3, h.sk.bw.len⟩, h.sk.tk, h.sk.sk.fr hf h4, hf.owns h.sk.own h5, h.sk.nc, h.sk.ng, h.sk.ns, Nat.le_trans h.sk.hb hf.size⟩, h.hn, h.bel.trans (hf.below h.bel.size h6), h.lwb, h.lc, h.lg, h.ls, h.nw⟩

theorem recB_length' (s u : Int) (m : Nat) (P : List Int) : (recB s u m P).length = 16 + P.length := by
  simp [recB, le32]; omega

theorem packet_sink (w0 w : World) (wb c g s recs n : Nat) (zs : List Value) (buf sent : List Int) (sv : Value) (h : PS w0 w wb c g s recs n zs buf sent sv) (r m cap : Nat) (q sx ux : Int) (ap : Option Addr) (P : List Int)
    (hs : (q + -62135596800) % 4294967296 = sx) (hu : ((r / 1000 : Nat) : Int) = ux) (hr : r < 1000000000) (hq0 : -10000000000 ≤ q) (hq1 : q ≤ 10000000000) (hm : m ≤ 65535) (hrecs : recs ≤ 1000000)
    (hp : Src w ap m cap (cb P)) (hpb : 0 < m → ∀ ad, ap = some ad → ad.block ≠ wb) (htot : (sent ++ buf).length + m ≤ 800000000) (T : List Int) (hT : (sent ++ buf) ++ recB sx ux m P = T) :
    Calls Ybaf.prog 14 #[.pointer (some ⟨wb, 0, none⟩), .agg #[.int .u64 r, .int .i64 q, .pointer none], .slice ap m cap] w fun e w' => e = .returned .nilIface ∧
      ∃ n' zs' buf' sent' sv', PS w0 w' wb c g s (recs + 1) n' zs' buf' sent' sv' ∧ sent' ++ buf' = T ∧ Went wb c g s w sv w' sv' := by
  have hP : P.length = m := by have := hp.length; rwa [cb_length] at this
  refine packet_any wb c recs r m cap q sx ux ap w hs hu hr hq0 hq1 hm hrecs h.wr P hp hpb (fun w' => ∃ n' zs' buf' sent' sv', PS w0 w' wb c g s (recs + 1) n' zs' buf' sent' sv' ∧ sent' ++ buf' = T ∧ Went wb c g s w sv w' sv') ?_
  intro w1 g1 cap1 hwr hfr hown
  have n1 := h.wr.ne h.sk.bw.st (by decide)
  have n2 := h.wr.ne h.sk.bw.buf (by decide)
  have n3 := h.wr.ne h.sk.sk (by decide)
  have hsz := hfr.size
  have hS1 : SK w1 c g s w0.heap.size n zs buf sent sv :=
    ⟨⟨h.sk.bw.st.fr hfr (by simpa using Ne.symm n1), h.sk.bw.buf.fr hfr (by simpa using Ne.symm n2), h.sk.bw.len⟩, h.sk.tk, h.sk.sk.fr hfr (by simpa using Ne.symm n3), hfr.owns h.sk.own (fun k hk => by simp; intro e; subst e; exact h.nw hk), h.sk.nc, h.sk.ng, h.sk.ns, Nat.le_trans h.sk.hb hsz⟩
  have hg1 : w.heap.size + 1 ≤ g1 ∧ g1 < w1.heap.size := hown.lt g1 rfl
  have hmc : 16 + m ≤ cap1 := by
    rcases hown.2 with ⟨h1, _⟩ | ⟨_, _, _, h1, _, _, h2, _⟩
    · cases h1
    · cases h1; exact h2
  have l1 := h.sk.bw.st.lt
  have l2 := h.sk.bw.buf.lt
  have l3 := h.sk.sk.lt
  have l4 : sv.ownBlock ≠ some g1 := fun e => by have := (h.sk.own.lt g1 e).2; omega
  have hlen := h.sk.len h.hn
  have htot' : sent.length + n + (16 + m) ≤ 900000000 := by rw [List.length_append] at htot; omega
  refine (write_sink c g s w0.heap.size n (16 + m) cap1 g1 ⟨g1, 0, none⟩ zs buf sent (recB sx ux m P) sv w1 hS1 h.hn (by omega) hmc (by rw [recB_length', hP]) (hown.cells rfl) rfl hg1.2 (by omega) (by omega) (by omega) l4 htot' T hT).mono ?_
  rintro e w2 ⟨rfl, n', zs', buf', sent', sv', hS2, hn', hT', hM⟩
  have hwr2 : Blk w2 wb [.pointer (some ⟨c, 0, none⟩), .int .i64 ((recs : Int) + 1)] 48 := hM.blk hwr n1 n2 n3 h.nw
  have hF : Fr ([wb, c, g, s] ++ sv.ownBlock.toList) w w2 := (hfr.mono (by simp)).andThen hM.fr (fun x hx => .inl (by simp at hx ⊢; rcases hx with hx | hx | hx | hx <;> simp [hx]))
  have hat : sv'.ownBlock = sv.ownBlock ∨ ∃ k, sv'.ownBlock = some k ∧ w.heap.size ≤ k := by
    rcases hM.at' with e | ⟨k, e, hk⟩
    · exact .inl e
    · exact .inr ⟨k, e, by omega⟩
  exact ⟨⟨_, rfl⟩, hwr2, n', zs', buf', sent', sv', ⟨by simpa using hwr2, hS2, hn', h.bel' hF, h.lwb, h.lc, h.lg, h.ls, hM.ne (by have := h.wr.lt; omega) h.nw⟩, hT', hF, hat⟩

theorem pflush_sink (w0 w : World) (wb c g s recs n : Nat) (zs : List Value) (buf sent : List Int) (sv : Value) (h : PS w0 w wb c g s recs n zs buf sent sv) (htot : (sent ++ buf).length ≤ 800000000) :
    Calls Ybaf.prog 15 #[.pointer (some ⟨wb, 0, none⟩)] w fun e w' => e = .returned .nilIface ∧ ∃ zs' sv', PS w0 w' wb c g s recs 0 zs' [] (sent ++ buf) sv' ∧ Went wb c g s w sv w' sv' := by
  refine pflush_ok wb c _ w h.wr (fun w' => ∃ zs' sv', PS w0 w' wb c g s recs 0 zs' [] (sent ++ buf) sv' ∧ Went wb c g s w sv w' sv') ?_
  have n1 := h.wr.ne h.sk.bw.st (by decide)
  have n2 := h.wr.ne h.sk.bw.buf (by decide)
  have n3 := h.wr.ne h.sk.sk (by decide)
  have hlen := h.sk.len h.hn
  by_cases hz : n = 0
  · subst hz
    have hb : buf = [] := List.eq_nil_of_length_eq_zero hlen
    subst hb
    refine (flush_none c g s _ zs [] sent sv w h.sk).mono ?_
    rintro e w2 ⟨rfl, rfl⟩
    exact ⟨rfl, zs, sv, by simpa using h, Fr.refl _ _, .inl rfl⟩
  · refine (flush_ok c g s _ n zs buf sent sv w h.sk (by omega) h.hn (by rw [List.length_append] at htot; omega)).mono ?_
    rintro e w2 ⟨rfl, sv', hS2, hM⟩
    have hF : Fr ([wb, c, g, s] ++ sv.ownBlock.toList) w w2 := hM.fr.mono (fun x hx => by simp at hx ⊢; rcases hx with hx | hx | hx | hx <;> simp [hx])
    exact ⟨rfl, zs, sv', ⟨hM.blk h.wr n1 n2 n3 h.nw, hS2, by omega, h.bel' hF, h.lwb, h.lc, h.lg, h.ls, hM.ne h.wr.lt h.nw⟩, hF, hM.at'⟩
end Go.Proofs.YbulkbjogFmt
