import Derived.Test.YbulkbjogFmtFlush
import Derived.Test.YbulkbjogFmtApp
namespace Go.Proofs.YbulkbjogFmt
open Go.RowKit

/-- From a to b the sink's own row has moved from sv to sv'; else only the blocks c, g, s and new ones have turned. -/
structure Moved (c g s : Nat) (a : World) (sv : Value) (b : World) (sv' : Value) : Prop where
  fr : Fr ([c, g, s] ++ sv.ownBlock.toList) a b
  at' : sv'.ownBlock = sv.ownBlock ∨ ∃ k, sv'.ownBlock = some k ∧ a.heap.size ≤ k

theorem Moved.refl (c g s : Nat) (a : World) (sv : Value) : Moved c g s a sv a sv := ⟨Fr.refl _ _, .inl rfl⟩

theorem Moved.trans {c g s : Nat} {a b d : World} {v1 v2 v3 : Value} (h : Moved c g s a v1 b v2) (k : Moved c g s b v2 d v3) : Moved c g s a v1 d v3 := by
  refine ⟨h.fr.andThen k.fr (fun x hx => ?_), ?_⟩
  · rcases List.mem_append.1 hx with hx | hx
    · exact .inl (List.mem_append.2 (.inl hx))
    · rcases h.at' with e | ⟨j, e, hj⟩
      · rw [e] at hx; exact .inl (List.mem_append.2 (.inr hx))
      · rw [e] at hx; simp at hx; subst hx; exact .inr hj
  · rcases k.at' with e | ⟨j, e, hj⟩
    · rcases h.at' with e' | ⟨j, e', hj⟩
      · exact .inl (e.trans e')
      · exact .inr ⟨j, e.trans e', hj⟩
    · exact .inr ⟨j, e, Nat.le_trans h.fr.size hj⟩

theorem Moved.ne {c g s : Nat} {a b : World} {v1 v2 : Value} (h : Moved c g s a v1 b v2) {x : Nat} (hx : x < a.heap.size) (hn : v1.ownBlock ≠ some x) : v2.ownBlock ≠ some x := by
  rcases h.at' with e | ⟨j, e, hj⟩
  · rw [e]; exact hn
  · rw [e]; intro hh; cases hh; omega

theorem Moved.blk {c g s : Nat} {a b : World} {v1 v2 : Value} (h : Moved c g s a v1 b v2) {x : Nat} {cs : List Value} {t : TypeId} (hb : Blk a x cs t) (h1 : x ≠ c) (h2 : x ≠ g) (h3 : x ≠ s) (h4 : v1.ownBlock ≠ some x) : Blk b x cs t :=
  hb.fr h.fr (by simp [h1, h2, h3]; exact h4)

/-- The sink's Write: what is handed over lies behind what it held. -/
theorem sinkWrite_any (s base : Nat) (sv : Value) (sent P : List Int) (ap : Option Addr) (m cap : Nat) (w : World) (hs : Blk w s [sv] 32) (hown : w.ownsRow base 5 1 sv sent.length (cb sent)) (hne : sv.ownBlock ≠ some s)
    (hsrc : Src w ap m cap (cb P)) (hm : 0 < m) (htot : sent.length + m ≤ 1000000000) (hb : base ≤ w.heap.size) :
    Calls Ybaf.prog 54 #[.pointer (some ⟨s, 0, none⟩), .slice ap m cap] w fun e w' => e = .returned (.tuple #[.int .i64 m, .nilIface]) ∧
      ∃ sv', Blk w' s [sv'] 32 ∧ w'.ownsRow base 5 1 sv' (sent ++ P).length (cb (sent ++ P)) ∧ Fr (s :: sv.ownBlock.toList) w w' ∧ (sv'.ownBlock = sv.ownBlock ∨ ∃ k, sv'.ownBlock = some k ∧ w.heap.size ≤ k) := by
  have h0 := hs.cell 0
  simp at h0
  have hP : P.length = m := by have := hsrc.length; rwa [cb_length] at this
  have HS : Hid (Blk w s [sv] 32) := hs
  have HO : Hid (w.ownsRow base 5 1 sv sent.length (cb sent)) := hown
  have HR : Hid (Src w ap m cap (cb P)) := hsrc
  clear hs hown hsrc
  go_enter Ybaf.func54, Ybaf.ntmps54
  go_wp2_with (at_builtin; refine wpList_append_src rfl (.tmp 10) (.tmp 11) rfl base sv sent.length (cb sent) (by rfl) HO.out ap m cap (cb P) (by rfl) HR.out (by omega) (by omega) hb ?_; intro g1 cap1 w1 hown1 hfr1 hat1; have HS1 := HS.out.fr hfr1 (fun hx => hne (by simpa using hx)); have j0 := HS1.cell 0; have j1 := HS1.free 0; simp at j0)
  go_ret2
  have hne1 : (Value.slice (some ⟨g1, 0, none⟩) (sent.length + m) cap1).ownBlock ≠ some s := by
    have hl := HS.out.lt
    rcases hat1 with h | h
    · simp [Value.ownBlock]; intro e; rw [e] at h; exact hne h
    · simp [Value.ownBlock]; omega
  refine ⟨rfl, .slice (some ⟨g1, 0, none⟩) (sent.length + m) cap1, by simpa using HS1.set 0 _, ?_, (hfr1.mono (fun x hx => by simp [hx])).setCell (.inl (by simp)) _, ?_⟩
  · rw [cb_append, List.length_append, hP]
    exact ownsRow_setCell_other hown1 hne1 _
  · rcases hat1 with h | h
    · exact .inl (by rw [h]; rfl)
    · exact .inr ⟨g1, rfl, h⟩

/-- A bufio.Writer over the sink: n bytes 'buf' are buffered, 'sent' have been handed on. -/
structure SK (w : World) (c g s base n : Nat) (zs : List Value) (buf sent : List Int) (sv : Value) : Prop where
  bw : BW w c g .nilIface n (.iface 30 (.pointer (some ⟨s, 0, none⟩))) zs
  tk : zs.take n = cb buf
  sk : Blk w s [sv] 32
  own : w.ownsRow base 5 1 sv sent.length (cb sent)
  nc : sv.ownBlock ≠ some c
  ng : sv.ownBlock ≠ some g
  ns : sv.ownBlock ≠ some s
  hb : base ≤ w.heap.size

theorem SK.len {w : World} {c g s base n : Nat} {zs : List Value} {buf sent : List Int} {sv : Value} (h : SK w c g s base n zs buf sent sv) (hn : n ≤ 4096) : buf.length = n := by
  have := congrArg List.length h.tk
  rw [cb_length, List.length_take, h.bw.len] at this
  omega

theorem SK.drewN {w : World} {c g s base n : Nat} {zs : List Value} {buf sent : List Int} {sv : Value} (h : SK w c g s base n zs buf sent sv) (q : Nat) : SK (w.drewN q) c g s base n zs buf sent sv :=
  ⟨h.bw.drewN q, h.tk, h.sk, h.own, h.nc, h.ng, h.ns, h.hb⟩

theorem SK.nes {w : World} {c g s base n : Nat} {zs : List Value} {buf sent : List Int} {sv : Value} (h : SK w c g s base n zs buf sent sv) : c ≠ g ∧ c ≠ s ∧ g ≠ s :=
  ⟨h.bw.st.ne h.bw.buf (by decide), h.bw.st.ne h.sk (by decide), h.bw.buf.ne h.sk (by decide)⟩

set_option maxRecDepth 100000 in
set_option maxHeartbeats 800000 in
theorem flush_ok (c g s base n : Nat) (zs : List Value) (buf sent : List Int) (sv : Value) (w : World) (h : SK w c g s base n zs buf sent sv) (hn : 0 < n) (hm : n ≤ 4096) (htot : sent.length + n ≤ 1000000000) :
    Calls Ybaf.prog 30 #[.pointer (some ⟨c, 0, none⟩)] w fun e w' => e = .returned .nilIface ∧ ∃ sv', SK w' c g s base 0 zs [] (sent ++ buf) sv' ∧ Moved c g s w sv w' sv' := by
  obtain ⟨k0, k1, k2, k3⟩ := h.bw.cells
  obtain ⟨n1, n2, n3⟩ := h.nes
  have b0 : (0 : Int) ≤ (n : Int) := by omega
  have b1 : (n : Int) ≤ 4096 := by omega
  have hz : ((n : Int) == 0) = false := beq_eq_false_iff_ne.2 (by omega)
  have H : Hid (SK w c g s base n zs buf sent sv) := h
  have hlen := h.len hm
  have HSrc : Hid (Src w (some ⟨g, 0, none⟩) n 4096 (cb buf)) := .inr ⟨_, rfl, by rw [cb_length]; exact hlen, fun j u hu => by
    rw [← h.tk] at hu
    exact World.news_of_block (show w.heap[g]? = some (.cells zs.toArray 5 (0, 0)) from h.bw.buf) j u (by simpa using take_some hu), cb_one _⟩
  have hmeth := method30 ⟨s, 0, none⟩
  clear h
  go_enter Ybaf.func30, Ybaf.ntmps30
  go_wp2
  go_region_held3 (fun w' => w'.cell? ⟨c, 1, none⟩ = some (.slice (some ⟨g, 0, none⟩) 4096 4096) ∧ w'.cell? ⟨c, 2, none⟩ = some (.int .i64 n) ∧ w'.cell? ⟨c, 3, none⟩ = some (.iface 30 (.pointer (some ⟨s, 0, none⟩)))) (first | go_keep | (go_split_ands; exact ⟨(hfr1.cell (by exact H.out.bw.st.lt) hnin).trans k1, (hfr1.cell (by exact H.out.bw.st.lt) hnin).trans k2, (hfr1.cell (by exact H.out.bw.st.lt) hnin).trans k3⟩)) ((go_at_call 54; refine (sinkWrite_any s base sv sent buf _ _ _ _ ?_ ?_ H.out.ns ?_ hn htot (by exact H.out.hb)).mono ?_; exact H.out.sk.drew; exact H.out.own; exact HSrc.out; rintro e w1 ⟨rfl, sv1, hs1, ho1, hfr1, hat1⟩; have hnin : c ∉ s :: sv.ownBlock.toList := by simp [n2]; exact H.out.nc))
  have hf : Fr (s :: sv.ownBlock.toList) w w1 := ⟨hfr1.os, hfr1.tape, hfr1.output, hfr1.size, hfr1.block⟩
  have hm1 : Moved c g s w sv w1 sv1 := ⟨hf.mono (fun x hx => by simp at hx ⊢; rcases hx with h | h <;> simp [h]), hat1⟩
  have hst1 : Hid (Blk w1 c [.nilIface, .slice (some ⟨g, 0, none⟩) 4096 4096, .int .i64 n, .iface 30 (.pointer (some ⟨s, 0, none⟩))] 83) := H.out.bw.st.fr hf hnin
  have hbf1 : Hid (Blk w1 g zs 5) := H.out.bw.buf.fr hf (by simp [n3]; exact H.out.ng)
  have HS1 : Hid (Blk w1 s [sv1] 32) := hs1
  have HO1 : Hid (w1.ownsRow base 5 1 sv1 (sent ++ buf).length (cb (sent ++ buf))) := ho1
  have HM1 : Hid (Moved c g s w sv w1 sv1) := hm1
  clear k0 k1 k2 k3 hs1 ho1 hfr1 hat1 hm1 hf
  have j2 := hst1.out.free 2
  have l2 := hst1.out.cell 2
  simp at l2
  go_wp2
  go_ret
  have hl := H.out.bw.st.lt
  have hsl := HM1.out.fr.size
  refine ⟨rfl, sv1, ⟨⟨?_, hbf1.out.other (Ne.symm n1) _, H.out.bw.len⟩, by simp [cb], HS1.out.other (Ne.symm n2) _, ?_, HM1.out.ne hl H.out.nc, HM1.out.ne H.out.bw.buf.lt H.out.ng, HM1.out.ne H.out.sk.lt H.out.ns, ?_⟩, ⟨HM1.out.fr.setCell (.inl (by simp)) _, HM1.out.at'⟩⟩
  · simpa using hst1.out.set 2 (.int .i64 0)
  · exact ownsRow_setCell_other HO1.out (HM1.out.ne hl H.out.nc) _
  · have := H.out.hb; simp [World.setCell]; omega

theorem flush_none (c g s base : Nat) (zs : List Value) (buf sent : List Int) (sv : Value) (w : World) (h : SK w c g s base 0 zs buf sent sv) :
    Calls Ybaf.prog 30 #[.pointer (some ⟨c, 0, none⟩)] w fun e w' => e = .returned .nilIface ∧ w' = w := by
  obtain ⟨k0, k1, k2, k3⟩ := h.bw.cells
  go_enter Ybaf.func30, Ybaf.ntmps30
  go_wp2
  go_ret
  exact ⟨rfl, rfl⟩
end Go.Proofs.YbulkbjogFmt
