import Derived.Test.YbulkbjogFmtSink
import Derived.Deep.LoopGhost
namespace Go.Proofs.YbulkbjogFmt
open Go.RowKit

/-- The bytes Pr are still to be written: they lie from some address on in block pb. -/
def Rest (wr : World) (pb : Nat) (ap : Option Addr) (m cap : Nat) (Pr : List Int) : Prop :=
  Pr.length = m ∧ m ≤ cap ∧ (0 < m → ∃ ad, ap = some ad ∧ ad.block = pb ∧ ∀ j u, (cb Pr)[j]? = some u → wr.cell? (ad.add j) = some u)

/-- In the midst of (*bufio.Writer).Write over the sink. -/
structure WR (w : World) (c g s base : Nat) (sv : Value) (T : List Int) (m pb m' cap' n' d : Nat) (ap' : Option Addr) (zs' : List Value) (buf' sent' Pr : List Int) (sv' : Value) (wr : World) : Prop where
  sk : SK wr c g s base n' zs' buf' sent' sv'
  mv : Moved c g s w sv wr sv'
  hn : n' ≤ 4096
  h0 : n' = 0 ∨ 0 < m'
  hd : d + m' = m
  hT : (sent' ++ buf') ++ Pr = T
  rs : Rest wr pb ap' m' cap' Pr

theorem splice_take {zs cs : List Value} {n k : Nat} (hn : n ≤ zs.length) (hk : cs.length = k) : (splice zs n cs).take (n + k) = zs.take n ++ cs := by
  subst hk
  unfold splice
  rw [← List.append_assoc, List.take_append_of_le_length (by simp; omega), List.take_of_length_le (by simp; omega)]

/-- What SK becomes where X is copied behind the buffered bytes and n raised. -/
theorem SK.fill {wr w1 : World} {c g s base n k : Nat} {zs : List Value} {buf sent X : List Int} {sv : Value} (h : SK wr c g s base n zs buf sent sv) (hg : Blk w1 g (splice zs n (cb X)) 5) (hf : Fr [g] wr w1) (hX : X.length = k) (hle : n + k ≤ 4096) :
    SK (w1.setCell ⟨c, 2, none⟩ (.int .i64 ((n : Int) + (k : Int)))) c g s base (n + k) (splice zs n (cb X)) (buf ++ X) sent sv ∧ Moved c g s wr sv (w1.setCell ⟨c, 2, none⟩ (.int .i64 ((n : Int) + (k : Int)))) sv := by
  obtain ⟨n1, n2, n3⟩ := h.nes
  have hst : Blk w1 c [.nilIface, .slice (some ⟨g, 0, none⟩) 4096 4096, .int .i64 n, .iface 30 (.pointer (some ⟨s, 0, none⟩))] 83 := h.bw.st.fr hf (by simpa using n1)
  have hsz := hf.size
  refine ⟨⟨⟨?_, hg.other (Ne.symm n1) _, ?_⟩, ?_, (h.sk.fr hf (by simpa using Ne.symm n3)).other (Ne.symm n2) _, ownsRow_setCell_other (hf.owns h.own (fun x hx => ?_)) h.nc _, h.nc, h.ng, h.ns, ?_⟩, ⟨(hf.mono (by simp)).setCell (.inl (by simp)) _, .inl rfl⟩⟩
  · simpa using hst.set 2 (.int .i64 ((n : Int) + (k : Int)))
  · rw [length_splice _ _ _ (by rw [h.bw.len, cb_length, hX]; omega)]; exact h.bw.len
  · rw [splice_take (by rw [h.bw.len]; omega) (by rw [cb_length, hX]), h.tk, cb_append]
  · simp; intro e; subst e; exact h.ng hx
  · have := h.hb; simp [World.setCell]; omega

/-- What SK becomes where the sink is written directly. -/
theorem SK.direct {wr w1 : World} {c g s base q : Nat} {zs : List Value} {buf sent Pr : List Int} {sv sv1 : Value} (h : SK wr c g s base 0 zs buf sent sv) (hs : Blk w1 s [sv1] 32) (ho : w1.ownsRow base 5 1 sv1 (sent ++ Pr).length (cb (sent ++ Pr)))
    (hf0 : Fr (s :: sv.ownBlock.toList) (wr.drewN q) w1) (hat : sv1.ownBlock = sv.ownBlock ∨ ∃ k, sv1.ownBlock = some k ∧ (wr.drewN q).heap.size ≤ k) :
    SK (w1.setCell ⟨c, 0, none⟩ .nilIface) c g s base 0 zs [] (sent ++ Pr) sv1 ∧ Moved c g s wr sv (w1.setCell ⟨c, 0, none⟩ .nilIface) sv1 ∧ w1.cell? ⟨c, 0, none⟩ = some .nilIface ∧ w1.frozen? ⟨c, 0, none⟩ = false := by
  obtain ⟨n1, n2, n3⟩ := h.nes
  have hf : Fr (s :: sv.ownBlock.toList) wr w1 := ⟨hf0.os, hf0.tape, hf0.output, hf0.size, hf0.block⟩
  have hM : Moved c g s wr sv w1 sv1 := ⟨hf.mono (fun x hx => by simp at hx ⊢; rcases hx with h | h <;> simp [h]), hat⟩
  have hst : Blk w1 c [.nilIface, .slice (some ⟨g, 0, none⟩) 4096 4096, .int .i64 ((0 : Nat) : Int), .iface 30 (.pointer (some ⟨s, 0, none⟩))] 83 := h.bw.st.fr hf (by simp [n2]; exact h.nc)
  have hbf : Blk w1 g zs 5 := h.bw.buf.fr hf (by simp [n3]; exact h.ng)
  have hsz := hf.size
  refine ⟨⟨⟨by simpa using hst.set 0 .nilIface, hbf.other (Ne.symm n1) _, h.bw.len⟩, by simp [cb], hs.other (Ne.symm n2) _, ownsRow_setCell_other ho (hM.ne h.bw.st.lt h.nc) _, hM.ne h.bw.st.lt h.nc, hM.ne h.bw.buf.lt h.ng, hM.ne h.sk.lt h.ns, ?_⟩, ⟨hM.fr.setCell (.inl (by simp)) _, hM.at'⟩, by simpa using hst.cell 0, hst.free 0⟩
  have := h.hb; simp [World.setCell]; omega

theorem cb_take_some {P : List Int} {r j : Nat} {u : Value} (h : (cb (P.take r))[j]? = some u) : (cb P)[j]? = some u := by
  unfold cb at h ⊢
  rw [List.map_take] at h
  exact take_some h

theorem Rest.fr {S : List Nat} {a b : World} {pb : Nat} {ap : Option Addr} {m cap : Nat} {Pr : List Int} (h : Rest a pb ap m cap Pr) (hf : Fr S a b) (hp : pb < a.heap.size) (hS : pb ∉ S) : Rest b pb ap m cap Pr := by
  refine ⟨h.1, h.2.1, fun hm => ?_⟩
  obtain ⟨ad, h1, h2, h3⟩ := h.2.2 hm
  refine ⟨ad, h1, h2, fun j u hu => ?_⟩
  have hb : (ad.add j).block = ad.block := by unfold Addr.add; split <;> rfl
  exact (hf.cell (by rw [hb, h2]; exact hp) (by rw [hb, h2]; exact hS)).trans (h3 j u hu)

theorem add_add (a : Addr) (r j : Nat) : (a.add r).add j = a.add (r + j) := by
  by_cases h1 : r = 0
  · subst h1; simp [Addr.add]
  · by_cases h2 : j = 0
    · subst h2; simp [Addr.add]
    · simp [Addr.add, h1, h2, Nat.add_assoc]

theorem Rest.drop {a : World} {pb : Nat} {ad : Addr} {m cap r : Nat} {Pr : List Int} (h : Rest a pb (some ad) m cap Pr) (hr : r < m) : Rest a pb (some (ad.add r)) (m - r) (cap - r) (Pr.drop r) := by
  obtain ⟨ad', e, h2, h3⟩ := h.2.2 (by omega)
  cases e
  have h1 := h.1
  have h4 := h.2.1
  refine ⟨by simp [h1], by omega, fun _ => ⟨_, rfl, ?_, fun j u hu => ?_⟩⟩
  · rw [← h2]; unfold Addr.add; split <;> rfl
  · rw [add_add]
    refine h3 (r + j) u ?_
    unfold cb at hu ⊢
    rw [List.map_drop, List.getElem?_drop] at hu
    exact hu

set_option maxRecDepth 100000 in
set_option maxHeartbeats 1600000 in
theorem write_sink (c g s base n m cap pb : Nat) (ad : Addr) (zs : List Value) (buf sent P : List Int) (sv : Value) (w : World) (h : SK w c g s base n zs buf sent sv) (hn : n ≤ 4096) (hm : 0 < m) (hmc : m ≤ cap) (hP : P.length = m)
    (hsrc : ∀ j u, (cb P)[j]? = some u → w.cell? (ad.add j) = some u) (hpb : ad.block = pb) (p1 : pb < w.heap.size) (p2 : pb ≠ c) (p3 : pb ≠ g) (p4 : pb ≠ s) (p5 : sv.ownBlock ≠ some pb) (htot : sent.length + n + m ≤ 900000000) (T : List Int) (hT : (sent ++ buf) ++ P = T) :
    Calls Ybaf.prog 22 #[.pointer (some ⟨c, 0, none⟩), .slice (some ad) m cap] w fun e w' => e = .returned (.tuple #[.int .i64 m, .nilIface]) ∧
      ∃ n' zs' buf' sent' sv', SK w' c g s base n' zs' buf' sent' sv' ∧ n' ≤ 4096 ∧ sent' ++ buf' = T ∧ Moved c g s w sv w' sv' := by
  have HT0 : Hid (T.length ≤ 900000000) := by
    show _ ≤ _
    have := h.len hn
    rw [← hT]
    simp [hP]; omega
  have W0 : Hid (WR w c g s base sv T m pb m cap n 0 (some ad) zs buf sent P sv w) := ⟨h, Moved.refl _ _ _ _ _, hn, .inr hm, by omega, hT, hP, hmc, fun _ => ⟨ad, rfl, hpb, hsrc⟩⟩
  obtain ⟨n1, n2, n3⟩ := h.nes
  clear h hsrc hT
  go_enter Ybaf.func22, Ybaf.ntmps22
  go_wp2
  go_loopg [1, 4] (m + n) (fun k p nn wr => ∃ (m' cap' n' d : Nat) (ap' : Option Addr) (zs' : List Value) (buf' sent' Pr : List Int) (sv' : Value), p = .slice ap' m' cap' ∧ nn = .int .i64 d ∧ k = m' + n' ∧ WR w c g s base sv T m pb m' cap' n' d ap' zs' buf' sent' Pr sv' wr)
  case atStart => exact ⟨m, cap, n, 0, some ad, zs, buf, sent, P, sv, rfl, rfl, rfl, W0.out⟩
  case round =>
    obtain ⟨m', cap', n', d, ap', zs', buf', sent', Pr, sv', rfl, rfl, hgk, hR⟩ := hrel
    have HK : Hid (gk = m' + n') := hgk
    have HR : Hid (WR w c g s base sv T m pb m' cap' n' d ap' zs' buf' sent' Pr sv' wr) := hR
    obtain ⟨k0, k1, k2, k3⟩ := hR.sk.bw.cells
    have q1 := hR.hn
    have q2 := hR.hd
    have q3 := hR.h0
    have q4 := hR.rs.2.1
    clear hR hgk W0
    have HX : Hid (Rest wr pb ap' m' cap' Pr) := HR.out.rs
    have hPl : Pr.length = m' := HX.out.1
    have hcl : (cb Pr).length = m' := by rw [cb_length]; exact hPl
    by_cases hbig : 4096 - n' < m'
    · by_cases hz : n' = 0
      · subst hz
        obtain ⟨ad', rfl, hab, hcells⟩ := HX.out.2.2 (by omega)
        have HSrc : Hid (Src wr (some ad') m' cap' (cb Pr)) := .inr ⟨ad', rfl, hcl, hcells, cb_one _⟩
        have hmeth := method30 ⟨s, 0, none⟩
        have f0 := HR.out.sk.bw.st.free 0
        clear hcells
        go_wp2_with (first | (go_at_call 34; refine (avail_any c g .nilIface (.iface 30 (.pointer (some ⟨s, 0, none⟩))) 0 zs' _ HR.out.sk.bw q1).mono ?_; rintro e w' ⟨rfl, q, rfl⟩) | (go_at_call 35; refine (buffered_any c g .nilIface (.iface 30 (.pointer (some ⟨s, 0, none⟩))) 0 zs' _ (HR.out.sk.bw.drewN _)).mono ?_; rintro e w' ⟨rfl, rfl⟩))
        have hlT : sent'.length + m' ≤ 1000000000 := by
          have h1 := congrArg List.length HR.out.hT
          have h2 : _ ≤ _ := HT0.out
          simp only [List.length_append] at h1 h2
          omega
        refine (sinkWrite_any s base sv' sent' Pr (some ad') m' cap' _ (HR.out.sk.sk.drewN q) HR.out.sk.own HR.out.sk.ns HSrc.out (by omega) hlT HR.out.sk.hb).mono ?_
        rintro e w1 ⟨rfl, sv1, hs1, ho1, hfr1, hat1⟩
        obtain ⟨hS1, hM1, hc1, hz1⟩ := HR.out.sk.direct hs1 ho1 (q := q) hfr1 hat1
        have HS1 : Hid (SK (w1.setCell ⟨c, 0, none⟩ .nilIface) c g s base 0 zs' [] (sent' ++ Pr) sv1 ∧ Moved c g s wr sv' (w1.setCell ⟨c, 0, none⟩ .nilIface) sv1) := ⟨hS1, hM1⟩
        clear hS1 hM1 hs1 ho1 hfr1 hat1 k0 k1 k2 k3 f0
        have hbl : buf' = [] := List.eq_nil_of_length_eq_zero (HR.out.sk.len (by omega))
        have HW : ∀ ap'' cap'', Hid (WR w c g s base sv T m pb 0 cap'' 0 (d + m') ap'' zs' [] (sent' ++ Pr) [] sv1 (w1.setCell ⟨c, 0, none⟩ .nilIface)) := fun ap'' cap'' => ⟨HS1.out.1, HR.out.mv.trans HS1.out.2, by omega, .inl rfl, by omega, by rw [← HR.out.hT, hbl]; simp, rfl, by omega, fun hh => by omega⟩
        clear hbl
        go_wp2
        all_goals
          go_roundg 0
          case measure => have := HK.out; omega
          case rel => exact ⟨0, _, 0, d + m', _, zs', [], sent' ++ Pr, [], sv1, rfl, by go_num, rfl, (HW _ _).out⟩
      · obtain ⟨r, hr⟩ : ∃ r, r + n' = 4096 := ⟨4096 - n', by omega⟩
        have hrm : r < m' := by omega
        obtain ⟨ad', rfl, hab, hcells⟩ := HX.out.2.2 (by omega)
        have hzI : ((n' : Int) == 0) = false := beq_eq_false_iff_ne.2 (by omega)
        have b0 : (0 : Int) ≤ (n' : Int) := by omega
        have b1 : (n' : Int) ≤ 4096 := by omega
        have HC : Hid (∀ j u, (cb Pr)[j]? = some u → wr.cell? (ad'.add j) = some u) := hcells
        obtain ⟨X, HXe⟩ : ∃ X, Hid (X = Pr.take r) := ⟨_, rfl⟩
        have hXl : (cb X).length = r := by rw [HXe.out, cb_length, List.length_take]; omega
        have HCX : Hid (∀ j u, (cb X)[j]? = some u → wr.cell? (ad'.add j) = some u) := fun j u hu => HC.out j u (by rw [HXe.out] at hu; exact cb_take_some hu)
        clear hcells
        go_wp2_with (first | (go_at_call 34; refine (avail_any c g .nilIface (.iface 30 (.pointer (some ⟨s, 0, none⟩))) n' zs' _ HR.out.sk.bw q1).mono ?_; rintro e w' ⟨rfl, q, rfl⟩) | (go_at_call 35; refine (buffered_any c g .nilIface (.iface 30 (.pointer (some ⟨s, 0, none⟩))) n' zs' _ (HR.out.sk.bw.drewN _)).mono ?_; rintro e w' ⟨rfl, rfl⟩))
        go_region_held3 (fun w' => w'.cell? ⟨c, 1, none⟩ = some (.slice (some ⟨g, 0, none⟩) 4096 4096) ∧ w'.cell? ⟨c, 2, none⟩ = some (.int .i64 n')) (first | go_keep | (go_split_ands; exact ⟨(hf1.cell (by exact HR.out.sk.bw.st.lt) (by simp [n1])).trans (by assumption), (hf1.cell (by exact HR.out.sk.bw.st.lt) (by simp [n1])).trans (by assumption)⟩)) ((refine step_copy_fr (by rfl) (.tmp 43) (.tmp 44) 22 22 (by rfl) 5 Ybaf.underlying22 Ybaf.size5 (if 4096 = n' then some ⟨g, 0, none⟩ else some ⟨g, n', none⟩) (some ad') (4096 - n') (4096 - n') m' cap' (by simp [Act.eval]) (by simp [Act.eval]) g n' zs' 5 HR.out.sk.bw.buf (cb X) (nmin_right (by omega) (by omega)) (fun hp => ⟨if_neg (by omega), ad', rfl, HCX.out⟩) (by rw [HR.out.sk.bw.len, hXl]; omega) (cb_one _) ?_; intro w1 hg1 hf1))
        have hf : Hid (Fr [g] wr w1) := ⟨hf1.os, hf1.tape, hf1.output, hf1.size, hf1.block⟩
        have hst1 : Hid (Blk w1 c [.nilIface, .slice (some ⟨g, 0, none⟩) 4096 4096, .int .i64 n', .iface 30 (.pointer (some ⟨s, 0, none⟩))] 83) := HR.out.sk.bw.st.fr hf.out (by simpa using n1)
        have j0 := hst1.out.free 2
        clear k0 k1 k2 k3 b0 b1 hf1
        have j1 := hst1.out.cell 2
        simp at j1
        go_wp2_with fail
        all_goals
          clear h HC HCX
          obtain ⟨hS, hM⟩ := HR.out.sk.fill (X := X) (k := r) hg1.out hf.out (by rw [← hXl, cb_length]) (by omega)
          have hlT : sent'.length + (n' + r) ≤ 1000000000 := by
            have h1 := congrArg List.length HR.out.hT
            have h2 : _ ≤ _ := HT0.out
            have h3 := HR.out.sk.len q1
            simp only [List.length_append] at h1 h2
            omega
          refine (flush_ok c g s base (n' + r) _ _ _ _ _ hS (by omega) (by omega) hlT).mono ?_
          rintro e w2 ⟨rfl, sv2, hS2, hM2⟩
          have HW : Hid (WR w c g s base sv T m pb (m' - r) (cap' - r) 0 (d + r) (some (ad'.add r)) (splice zs' n' (cb X)) [] (sent' ++ (buf' ++ X)) (Pr.drop r) sv2 w2) := by
            refine ⟨hS2, HR.out.mv.trans (hM.trans hM2), by omega, .inl rfl, by omega, ?_, ?_⟩
            · rw [← HR.out.hT, HXe.out]; simp
            · have hp1 := HR.out.mv.fr.size
              have hp5 := HR.out.mv.ne p1 p5
              exact (HX.out.drop (by omega)).fr (hM.trans hM2).fr (by omega) (by simp [p2, p3, p4]; exact hp5)
          clear hS hM hS2 hM2 hlT j0 j1
          go_wp2
          go_roundg (m' - r)
          case measure => have := HK.out; omega
          case rel => exact ⟨m' - r, cap' - r, 0, d + r, _, _, [], _, _, sv2, rfl, by go_num, by omega, HW.out⟩
    · have hlt : n' < 4096 := by omega
      have b0 : (0 : Int) ≤ (n' : Int) := by omega
      have b1 : (n' : Int) ≤ 4096 := by omega
      go_wp2_with (first | (go_at_call 34; refine (avail_any c g .nilIface (.iface 30 (.pointer (some ⟨s, 0, none⟩))) n' zs' _ HR.out.sk.bw q1).mono ?_; rintro e w' ⟨rfl, q, rfl⟩))
      go_region_held3 (fun w' => w'.cell? ⟨c, 1, none⟩ = some (.slice (some ⟨g, 0, none⟩) 4096 4096) ∧ w'.cell? ⟨c, 2, none⟩ = some (.int .i64 n')) (first | go_keep | (go_split_ands; exact ⟨(hf1.cell (by exact HR.out.sk.bw.st.lt) (by simp [n1])).trans (by assumption), (hf1.cell (by exact HR.out.sk.bw.st.lt) (by simp [n1])).trans (by assumption)⟩)) ((refine step_copy_fr (by rfl) (.tmp 80) (.tmp 81) 22 22 (by rfl) 5 Ybaf.underlying22 Ybaf.size5 (some ⟨g, n', none⟩) ap' (4096 - n') (4096 - n') m' cap' (by simp [Act.eval]; omega) (by simp [Act.eval]) g n' zs' 5 HR.out.sk.bw.buf (cb Pr) (by rw [cb_length, hPl]; exact (Nat.min_eq_left (by omega)).symm) (fun hp => ⟨rfl, (HX.out.2.2 (by rw [cb_length] at hp; omega)).elim fun ad h => ⟨ad, h.1, h.2.2⟩⟩) (by rw [HR.out.sk.bw.len, cb_length]; omega) (cb_one _) ?_; intro w1 hg1 hf1))
      have hf : Hid (Fr [g] wr w1) := ⟨hf1.os, hf1.tape, hf1.output, hf1.size, hf1.block⟩
      have hst1 : Hid (Blk w1 c [.nilIface, .slice (some ⟨g, 0, none⟩) 4096 4096, .int .i64 n', .iface 30 (.pointer (some ⟨s, 0, none⟩))] 83) := HR.out.sk.bw.st.fr hf.out (by simpa using n1)
      have j0 := hst1.out.free 2
      clear k0 k1 k2 k3 b0 b1 hf1
      have j1 := hst1.out.cell 2
      simp at j1
      go_wp2
      go_ret2
      obtain ⟨hS, hM⟩ := HR.out.sk.fill hg1.out hf.out hPl (by omega)
      refine ⟨?_, n' + m', _, _, _, _, hS, by omega, ?_, HR.out.mv.trans hM⟩
      · have e : (d : Int) + (m' : Int) = (m : Int) := by omega
        rw [← e]; rfl
      · rw [← List.append_assoc]; exact HR.out.hT
end Go.Proofs.YbulkbjogFmt
