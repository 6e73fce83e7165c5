import Derived.Test.YbulkbjogFmtWrite
namespace Go.Proofs.YbulkbjogFmt
open Go.RowKit

theorem failWrite_any (f : Nat) (ev : Value) (k : Int) (p : Value) (w : World) (h : Blk w f [ev, .int .i64 k] 54) (hk : 0 ≤ k) (hk1 : k ≤ 1000) :
    Calls Ybaf.prog 63 #[.pointer (some ⟨f, 0, none⟩), p] w fun e w' => e = .returned (.tuple #[.int .i64 0, ev]) ∧ Blk w' f [ev, .int .i64 (k + 1)] 54 ∧ Fr [f] w w' := by
  have h0 := h.cell 0
  have h1 := h.cell 1
  have f1 := h.free 1
  simp at h0 h1
  have H : Hid (Blk w f [ev, .int .i64 k] 54) := h
  clear h
  go_enter Ybaf.func63, Ybaf.ntmps63
  go_wp2
  go_quiet (fail)
  go_wp2
  go_ret2
  refine ⟨rfl, ?_, (((Fr.refl [f] w).setCell (.inl (by simp)) _).drewN nq)⟩
  simpa using (H.out.set 1 (.int .i64 (k + 1))).drewN nq

theorem BW.drewN {w : World} {c g : Nat} {err wr : Value} {n : Nat} {zs : List Value} (h : BW w c g err n wr zs) (q : Nat) : BW (w.drewN q) c g err n wr zs := ⟨h.st, h.buf, h.len⟩

theorem method51 (a : Addr) (w : World) : (method 248 51 (.pointer (some a)) "Write").run Ybaf.prog w = .ok (63, .pointer (some a)) w := by kernel_rfl
theorem method30 (a : Addr) (w : World) : (method 248 30 (.pointer (some a)) "Write").run Ybaf.prog w = .ok (54, .pointer (some a)) w := by kernel_rfl

set_option maxRecDepth 100000 in
set_option maxHeartbeats 800000 in
theorem flush_fail (c g f : Nat) (n : Nat) (q : Addr) (zs : List Value) (w : World) (h : BW w c g .nilIface n (.iface 51 (.pointer (some ⟨f, 0, none⟩))) zs) (hn : 0 < n) (hm : n ≤ 4096)
    (hf : Blk w f [.iface 73 (.pointer (some q)), .int .i64 0] 54) :
    Calls Ybaf.prog 30 #[.pointer (some ⟨c, 0, none⟩)] w fun e w' => e = .returned (.iface 73 (.pointer (some q))) ∧ BW w' c g (.iface 73 (.pointer (some q))) n (.iface 51 (.pointer (some ⟨f, 0, none⟩))) zs ∧ Blk w' f [.iface 73 (.pointer (some q)), .int .i64 1] 54 ∧ Fr [c, f] w w' := by
  obtain ⟨k0, k1, k2, k3⟩ := h.cells
  have b0 : (0 : Int) ≤ (n : Int) := by omega
  have b1 : (n : Int) ≤ 4096 := by omega
  have hz : ((n : Int) == 0) = false := beq_eq_false_iff_ne.2 (by omega)
  have H : Hid (BW w c g .nilIface n (.iface 51 (.pointer (some ⟨f, 0, none⟩))) zs) := h
  have HF : Hid (Blk w f [.iface 73 (.pointer (some q)), .int .i64 0] 54) := hf
  have hcf : c ≠ f := H.out.st.ne HF.out (by decide)
  have hmeth := method51 ⟨f, 0, none⟩
  clear h hf
  go_enter Ybaf.func30, Ybaf.ntmps30
  go_wp2
  go_region_held3 (fun w' => w'.cell? ⟨c, 1, none⟩ = some (.slice (some ⟨g, 0, none⟩) 4096 4096) ∧ w'.cell? ⟨c, 2, none⟩ = some (.int .i64 n) ∧ w'.cell? ⟨c, 3, none⟩ = some (.iface 51 (.pointer (some ⟨f, 0, none⟩)))) (first | go_keep | (go_split_ands; exact ⟨(hfr1.cell (by exact H.out.st.lt) (by simpa using hcf)).trans k1, (hfr1.cell (by exact H.out.st.lt) (by simpa using hcf)).trans k2, (hfr1.cell (by exact H.out.st.lt) (by simpa using hcf)).trans k3⟩)) ((go_at_call 63; refine (failWrite_any f (.iface 73 (.pointer (some q))) 0 _ _ ?_ (by omega) (by omega)).mono ?_; exact HF.out.drew; rintro e w1 ⟨rfl, hf1, hfr1⟩))
  have hf : Fr [f] w w1 := ⟨hfr1.os, hfr1.tape, hfr1.output, hfr1.size, hfr1.block⟩
  have hst1 : Hid (Blk w1 c [.nilIface, .slice (some ⟨g, 0, none⟩) 4096 4096, .int .i64 n, .iface 51 (.pointer (some ⟨f, 0, none⟩))] 83) := H.out.st.fr hf (by simpa using hcf)
  have HF1 : Hid (Blk w1 f [.iface 73 (.pointer (some q)), .int .i64 1] 54) := hf1
  clear k0 k1 k2 k3 hfr1 hf1
  have j0 := hst1.out.free 0
  have j2 := hst1.out.free 2
  have l0 := hst1.out.cell 0
  have l2 := hst1.out.cell 2
  simp at l0 l2
  go_wp2
  go_ret
  refine ⟨rfl, ⟨?_, ?_, H.out.len⟩, (HF1.out.other (Ne.symm hcf) _).other (Ne.symm hcf) _, ((hf.mono (by simp)).setCell (.inl (by simp)) _).setCell (.inl (by simp)) _⟩
  · simpa using (hst1.out.set 2 (.int .i64 n)).set 0 (.iface 73 (.pointer (some q)))
  · have hgc := H.out.buf.ne H.out.st (by decide)
    exact ((H.out.buf.fr hf (by simpa using H.out.buf.ne HF.out (by decide))).other hgc _).other hgc _

/-- The writer bears an error: Flush hands it back. -/
theorem flush_err (c g n : Nat) (T : TypeId) (v wr : Value) (zs : List Value) (w : World) (h : BW w c g (.iface T v) n wr zs) :
    Calls Ybaf.prog 30 #[.pointer (some ⟨c, 0, none⟩)] w fun e w' => e = .returned (.iface T v) ∧ w' = w := by
  obtain ⟨k0, k1, k2, k3⟩ := h.cells
  go_enter Ybaf.func30, Ybaf.ntmps30
  go_wp2
  go_ret
  exact ⟨rfl, rfl⟩

theorem nmin_right {a b x : Nat} (h1 : x = b) (h2 : b ≤ a) : x = Nat.min a b := by subst h1; exact (Nat.min_eq_right h2).symm

theorem take_some {α : Type} {l : List α} {k j : Nat} {v : α} (h : (l.take k)[j]? = some v) : l[j]? = some v := by
  rw [List.getElem?_take] at h
  split at h
  · exact h
  · cases h

set_option maxRecDepth 100000 in
set_option maxHeartbeats 1600000 in
/-- What does not fit, over a writer that fails: the buffer is filled and handed on once, in vain. -/
theorem write_over (c g f : Nat) (n m cap : Nat) (q ad : Addr) (cs zs : List Value) (w : World) (h : BW w c g .nilIface n (.iface 51 (.pointer (some ⟨f, 0, none⟩))) zs) (hn0 : 0 < n) (hn : n < 4096) (hm : 4096 < n + m) (_hm1 : m ≤ 1000000) (hmc : m ≤ cap) (hcs : cs.length = m)
    (hsrc : ∀ j v, cs[j]? = some v → w.cell? (ad.add j) = some v) (h1c : ∀ v ∈ cs, v.oneCell' = true) (hf : Blk w f [.iface 73 (.pointer (some q)), .int .i64 0] 54) :
    Calls Ybaf.prog 22 #[.pointer (some ⟨c, 0, none⟩), .slice (some ad) m cap] w fun e w' => ∃ (r n' : Nat) (zs' : List Value), e = .returned (.tuple #[.int .i64 r, .iface 73 (.pointer (some q))]) ∧ BW w' c g (.iface 73 (.pointer (some q))) n' (.iface 51 (.pointer (some ⟨f, 0, none⟩))) zs' ∧ Blk w' f [.iface 73 (.pointer (some q)), .int .i64 1] 54 ∧ Fr [c, g, f] w w' := by
  obtain ⟨k0, k1, k2, k3⟩ := h.cells
  have b0 : (0 : Int) ≤ (n : Int) := by omega
  have b1 : (n : Int) ≤ 4096 := by omega
  have hz : ((n : Int) == 0) = false := beq_eq_false_iff_ne.2 (by omega)
  have H : Hid (BW w c g .nilIface n (.iface 51 (.pointer (some ⟨f, 0, none⟩))) zs) := h
  have HF : Hid (Blk w f [.iface 73 (.pointer (some q)), .int .i64 0] 54) := hf
  obtain ⟨r, hr⟩ : ∃ r, r + n = 4096 := ⟨4096 - n, by omega⟩
  obtain ⟨X, hXl, HX, H1⟩ : ∃ X : List Value, X.length = r ∧ Hid (∀ j v, X[j]? = some v → w.cell? (ad.add j) = some v) ∧ Hid (∀ v ∈ X, v.oneCell' = true) :=
    ⟨cs.take r, by rw [List.length_take]; omega, fun j v hj => hsrc j v (take_some hj), fun v hv => h1c v (List.mem_of_mem_take hv)⟩
  have hrm : r < m := by omega
  clear h hf hsrc h1c
  go_enter Ybaf.func22, Ybaf.ntmps22
  go_wp2
  refine wp_loop_rounds 2 ?_
  rw [rounds_succ]
  go_wp2_with (first | (go_at_call 34; refine (avail_any c g .nilIface (.iface 51 (.pointer (some ⟨f, 0, none⟩))) n zs _ H.out (by omega)).mono ?_; rintro e w' ⟨rfl, q1, rfl⟩) | (go_at_call 35; refine (buffered_any c g .nilIface (.iface 51 (.pointer (some ⟨f, 0, none⟩))) n zs _ (H.out.drewN _)).mono ?_; rintro e w' ⟨rfl, rfl⟩))
  go_region_held3 (fun w' => w'.cell? ⟨c, 1, none⟩ = some (.slice (some ⟨g, 0, none⟩) 4096 4096) ∧ w'.cell? ⟨c, 2, none⟩ = some (.int .i64 n)) (first | go_keep | (go_split_ands; exact ⟨(hf1.cell (by exact H.out.st.lt) (by simp [H.out.st.ne H.out.buf (by decide)])).trans (by assumption), (hf1.cell (by exact H.out.st.lt) (by simp [H.out.st.ne H.out.buf (by decide)])).trans (by assumption)⟩)) ((refine step_copy_fr (by rfl) (.tmp 43) (.tmp 44) 22 22 (by rfl) 5 Ybaf.underlying22 Ybaf.size5 (some ⟨g, n, none⟩) (some ad) (4096 - n) (4096 - n) m cap (by simp [Act.eval]; omega) (by simp [Act.eval]) g n zs 5 H.out.buf X (nmin_right (by omega) (by omega)) (fun hp => ⟨rfl, ad, rfl, HX.out⟩) (by rw [H.out.len, hXl]; omega) H1.out ?_; intro w1 hg1 hf1))
  have hf : Fr [g] w w1 := ⟨hf1.os, hf1.tape, hf1.output, hf1.size, hf1.block⟩
  have hne := H.out.st.ne H.out.buf (by decide)
  have hst1 : Hid (Blk w1 c [.nilIface, .slice (some ⟨g, 0, none⟩) 4096 4096, .int .i64 n, .iface 51 (.pointer (some ⟨f, 0, none⟩))] 83) := H.out.st.fr hf (by simpa using hne)
  have HF1 : Hid (Blk w1 f [.iface 73 (.pointer (some q)), .int .i64 0] 54) := HF.out.fr hf (by simpa using HF.out.ne H.out.buf (by decide))
  have j0 := hst1.out.free 2
  clear k0 k1 k2 k3 b0 b1 hf1
  have j1 := hst1.out.cell 2
  simp at j1
  go_wp2_with fail
  have hB2 : BW (w1.setCell ⟨c, 2, none⟩ (.int .i64 ((n : Int) + (r : Int)))) c g .nilIface (n + r) (.iface 51 (.pointer (some ⟨f, 0, none⟩))) (splice zs n X) := by
    refine ⟨?_, hg1.out.other (Ne.symm hne) _, ?_⟩
    · simpa using hst1.out.set 2 (.int .i64 ((n : Int) + (r : Int)))
    · rw [length_splice _ _ _ (by rw [H.out.len, hXl]; omega)]; exact H.out.len
  have hcf : c ≠ f := H.out.st.ne HF.out (by decide)
  refine (flush_fail c g f (n + r) q _ _ hB2 (by omega) (by omega) (HF1.out.other (Ne.symm hcf) _)).mono ?_
  rintro e w2 ⟨rfl, hB3, hF3, hfr3⟩
  have HB3 : Hid (BW w2 c g (.iface 73 (.pointer (some q))) (n + r) (.iface 51 (.pointer (some ⟨f, 0, none⟩))) (splice zs n X)) := hB3
  obtain ⟨m0, m1, m2, m3⟩ := hB3.cells
  clear hB2 hB3 j0 j1
  go_wp2_with fail
  rw [rounds_succ]
  go_wp2_with (first | (go_at_call 34; refine (avail_any c g (.iface 73 (.pointer (some q))) (.iface 51 (.pointer (some ⟨f, 0, none⟩))) (n + r) (splice zs n X) _ HB3.out (by omega)).mono ?_; rintro e w' ⟨rfl, q2, rfl⟩))
  go_quiet (fail)
  go_wp2
  go_ret2
  refine ⟨r, n + r, splice zs n X, rfl, (HB3.out.drewN _).drewN _, (hF3.drewN _).drewN _, ?_⟩
  exact ((((hf.mono (by simp)).setCell (.inl (by simp)) _).andThen hfr3 (fun x hx => .inl (by simp at hx; rcases hx with h | h <;> simp [h]))).drewN _).drewN _
end Go.Proofs.YbulkbjogFmt
