import Derived.Test.YbulkbjogFmtBuf
import Derived.Deep.RegionHeld3
import Derived.Deep.DrawnRows
namespace Go.Proofs.YbulkbjogFmt
open Go.RowKit

/-- copy into a row that is known whole, as one step of a region that draws: the row behind it; nothing else has turned. -/
theorem step_copy_fr {P : Program} {ops : Array Oper} {o : Oper} {a : Act} {w : World} {K : Act → World → Prop} {Q : Exit → Act → World → Prop} {E : Prop} (hgd : o.guard = none) (d s : Operand) (dT sT : TypeId)
    (ho : o.op = .call { callee := .builtin .copy, args := #[d, s], argTypes := #[dT, sT] }) (elem : TypeId) (hu : P.underlying dT = some (.slice elem)) (hsz : (P.info? elem).map (·.size) = some 1)
    (dp sp : Option Addr) (dLen dCap sLen sCap : Nat) (hd : a.eval d = .slice dp dLen dCap) (hs : a.eval s = .slice sp sLen sCap)
    (g off : Nat) (cur : List Value) (t : TypeId) (hg : Blk w g cur t) (cs : List Value) (hn : cs.length = Nat.min sLen dLen)
    (hpos : 0 < cs.length → dp = some ⟨g, off, none⟩ ∧ ∃ ad, sp = some ad ∧ ∀ j v, cs[j]? = some v → w.cell? (ad.add j) = some v)
    (hfit : off + cs.length ≤ cur.length) (h1 : ∀ v ∈ cs, v.oneCell' = true)
    (h : ∀ w', Hid (Blk w' g (splice cur off cs) t) → Fr [g] w w' → K (a.put o.dst (goInt cs.length)) w') :
    if Region.wanted o (yielded ops a.tmps) = true then Oper.wp P o a w K Q else E := by
  have hw : Region.wanted o (yielded ops a.tmps) = true := by simp [Region.wanted, hgd]
  rw [if_pos hw]
  by_cases h0 : cs.length = 0
  · obtain rfl : cs = [] := List.eq_nil_of_length_eq_zero h0
    have hrun := run_copy_none (P := P) w dT sT o.type elem dp sp dLen dCap sLen sCap hu hsz (by simpa using hn.symm)
    unfold Oper.wp
    simp [execOp, ho, resolve, invoke, builtin, hd, hs, hrun, Result.andThen]
    exact h w (show Blk _ _ _ _ by simpa [splice] using hg) (Fr.refl _ _)
  · obtain ⟨rfl, ad, rfl, hsrc⟩ := hpos (by omega)
    have hrun := run_copy_row (P := P) w dT sT o.type elem g off dLen dCap ad sLen sCap cur.toArray t cs hu hsz hg hn hsrc (by simpa using hfit) h1
    unfold Oper.wp
    simp [execOp, ho, resolve, invoke, builtin, hd, hs, hrun, Result.andThen]
    exact h _ (show Blk _ _ _ _ by simpa [splice, Blk] using setRow_heap w g _ _ t _ hg) ((Fr.refl _ _).setRow (.inl (by simp)) _)

theorem Ybaf.size5 : (Ybaf.prog.info? 5).map (·.size) = some 1 := by kernel_rfl

theorem BW.cells {w : World} {c g : Nat} {err wr : Value} {n : Nat} {zs : List Value} (h : BW w c g err n wr zs) : w.cell? ⟨c, 0, none⟩ = some err ∧ w.cell? ⟨c, 1, none⟩ = some (.slice (some ⟨g, 0, none⟩) 4096 4096) ∧ w.cell? ⟨c, 2, none⟩ = some (.int .i64 n) ∧ w.cell? ⟨c, 3, none⟩ = some wr := by
  have h0 := h.st.cell 0
  have h1 := h.st.cell 1
  have h2 := h.st.cell 2
  have h3 := h.st.cell 3
  simp at h0 h1 h2 h3
  exact ⟨h0, h1, h2, h3⟩

set_option maxRecDepth 100000 in
set_option maxHeartbeats 800000 in
theorem write_fits (c g : Nat) (wr : Value) (n m cap : Nat) (sp : Option Addr) (cs zs : List Value) (w : World) (h : BW w c g .nilIface n wr zs) (hn : n < 4096) (hm : n + m ≤ 4096) (hcs : cs.length = m)
    (hsrc : 0 < m → ∃ ad, sp = some ad ∧ ∀ j v, cs[j]? = some v → w.cell? (ad.add j) = some v) (h1c : ∀ v ∈ cs, v.oneCell' = true) :
    Calls Ybaf.prog 22 #[.pointer (some ⟨c, 0, none⟩), .slice sp m cap] w fun e w' => e = .returned (.tuple #[.int .i64 m, .nilIface]) ∧ BW w' c g .nilIface (n + m) wr (splice zs n cs) ∧ Fr [c, g] w w' := by
  obtain ⟨k0, k1, k2, k3⟩ := h.cells
  have b0 : (0 : Int) ≤ (n : Int) := by omega
  have b1 : (n : Int) ≤ 4096 := by omega
  have H : Hid (BW w c g .nilIface n wr zs) := h
  have HS : Hid _ := hsrc
  have H1 : Hid _ := h1c
  clear h hsrc h1c
  go_enter Ybaf.func22, Ybaf.ntmps22
  go_wp2
  refine wp_loop_rounds 1 ?_
  rw [rounds_succ]
  go_wp2_with (go_at_call 34; refine (avail_any c g .nilIface wr n zs _ H.out (by omega)).mono ?_; rintro e w' ⟨rfl, q, rfl⟩)
  go_region_held3 (fun w' => w'.cell? ⟨c, 1, none⟩ = some (.slice (some ⟨g, 0, none⟩) 4096 4096) ∧ w'.cell? ⟨c, 2, none⟩ = some (.int .i64 n)) (first | go_keep | (go_split_ands; exact ⟨(hf1.cell (by exact H.out.st.lt) (by simp [H.out.st.ne H.out.buf (by decide)])).trans (by assumption), (hf1.cell (by exact H.out.st.lt) (by simp [H.out.st.ne H.out.buf (by decide)])).trans (by assumption)⟩)) ((refine step_copy_fr (by rfl) (.tmp 80) (.tmp 81) 22 22 (by rfl) 5 Ybaf.underlying22 Ybaf.size5 (some ⟨g, n, none⟩) sp (4096 - n) (4096 - n) m cap (by simp [Act.eval]; omega) (by simp [Act.eval]) g n zs 5 H.out.buf cs (by rw [hcs]; exact (Nat.min_eq_left (by omega)).symm) (fun hp => ⟨rfl, HS.out (by omega)⟩) (by rw [H.out.len]; omega) H1.out ?_; intro w1 hg1 hf1))
  have hf : Fr [g] w w1 := ⟨hf1.os, hf1.tape, hf1.output, hf1.size, hf1.block⟩
  have hne := H.out.st.ne H.out.buf (by decide)
  have hst1 : Hid (Blk w1 c _ 83) := H.out.st.fr hf (by simpa using hne)
  have j0 := hst1.out.free 2
  clear k0 k1 k2 k3 b0 b1 hf1
  have j1 := hst1.out.cell 2
  simp at j1
  go_wp2
  go_ret2
  refine ⟨rfl, ⟨?_, hg1.out.other (Ne.symm hne) _, ?_⟩, (hf.mono (by simp)).setCell (.inl (by simp)) _⟩
  · have := hst1.out.set 2 (.int .i64 ((n : Int) + (m : Int)))
    simpa using this
  · rw [length_splice _ _ _ (by rw [H.out.len]; omega)]; exact H.out.len
end Go.Proofs.YbulkbjogFmt
